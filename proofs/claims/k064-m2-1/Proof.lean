import JvmDerived
import JvmDerived.Pilot.@@N@@Statement
import JvmDerived.Pilot.@@N@@Code
set_option linter.unusedVariables false
set_option linter.unusedSimpArgs false
namespace Jvm.Pilot.@@N@@
open Jvm Jvm.ClassFile Sem Op Lib Jvm.Free Jvm.Stand Jvm.LawKit Jvm.RoadKit Bundle Jvm.Pilot.@@N@@.Jvm.D
/-! ## own kit: one walk of a body in continuation style; the library's step laws of one family behind it -/
section OwnKit
variable {p : Program} {l : Launch} {e : Env} {R : Room} {s : State} {m : MethodId} {args : Array Value} {below : List Frame} {meth : Method} {c : Code} {Z : State} {own : String} {bytes : ByteArray} {maxL : Nat} {ret : Option FieldType} {nm : String} {n0 km : Nat} {Q : Option Value → Heap → Prop} {RR : State → Outcome → Prop} {T : State} {h : Heap} {cells slots : Nat} {a0 : Array Value} {pc pc' : Nat} {Ls : Array Slot} {S : List Value}
def OwnGo (p : Program) (e : Env) (below : List Frame) (S : State) (RR : State → Outcome → Prop) : Prop :=
  ∃ s₂ o, Steps p.tables e below S s₂ ∧ s₂.status = .running ∧ Ended s₂ below o ∧ RR s₂ o
theorem own_step {S S' : State} (k : OwnGo p e below S' RR) (h : ∀ t, Steps p.tables e below S' t → Steps p.tables e below S t) : OwnGo p e below S RR := by
  obtain ⟨s₂, o, h1, h2⟩ := k
  exact ⟨s₂, o, h _ h1, h2⟩
/-- the context of one body: what holds all along its walk -/
def OwnCx (p : Program) (l : Launch) (e : Env) (R : Room) (s : State) (m : MethodId) (meth : Method) (c : Code) (Z : State) (own : String) (bytes : ByteArray) (maxL : Nat) (ret : Option FieldType) (nm : String) (n0 km : Nat) (Q : Option Value → Heap → Prop) (RR : State → Outcome → Prop) : Prop :=
  p.tables.exec = Jvm.exec ∧ c.code = bytes ∧ c.maxLocals = maxL ∧ Z.Warmed39 s.vm ∧ s.vm.findClass own = some m.cls ∧ meth.name = nm ∧ meth.sig.returnType = ret ∧ meth.locks = false ∧
  ∀ (U : State) (v : Option Value) (L : List Loc), Q v U.heap → km ≤ U.heap.size → Fr n0 L → s.WarmedH U.vm → s.sameButNew ({ U with vm := s.vm } : State) L R.cells R.slots → RR U (.returned v)
/-- where the walk stands: the state T, its heap h, so many cells and slots made -/
def OwnSt (p : Program) (l : Launch) (e : Env) (R : Room) (s : State) (m : MethodId) (args : Array Value) (below : List Frame) (meth : Method) (c : Code) (Z : State) (own : String) (bytes : ByteArray) (maxL : Nat) (ret : Option FieldType) (nm : String) (n0 km : Nat) (Q : Option Value → Heap → Prop) (RR : State → Outcome → Prop) (T : State) (h : Heap) (cells slots : Nat) : Prop :=
  OwnCx p l e R s m meth c Z own bytes maxL ret nm n0 km Q RR ∧ T.heap = h ∧ km ≤ h.size ∧ ∃ locs, Stand p l e R s m args below meth c T locs cells slots ∧ Fr n0 locs
/-- a body's contract: called with these arguments at the heap h it returns v and leaves a heap, with Q -/
def OwnMet (l : Launch) (Z : State) (y : MethodName) (bytes : ByteArray) (maxL : Nat) (ret : Option FieldType) (rm : Room) (as' : Array Value) (h : Heap) (n0 : Nat) (Q : Option Value → Heap → Prop) : Prop :=
  ∀ ws : List Jvm.Cond, MetFree l y (head1 (Jvm.Cond.code y bytes maxL ret :: ws) rm) (fun a U => a = as' ∧ Z.Warmed39 U.vm ∧ U.heap = h) (fun _ _ _ _ _ => True) (fun _ U o U' => ∃ v L, o = .returned v ∧ ((Q v U'.heap ∧ h.size ≤ U'.heap.size) ∧ Fr n0 L) ∧ FrameEnd U o U' L rm.cells rm.slots)
theorem own_body {y : MethodName} {rm : Room} {as' : Array Value} (hpl : plainFor y = true)
    (body : ∀ (p : Program) (e : Env) (s : State) (m : MethodId) (below : List Frame) (meth : Method) (c : Code) (s₁ : State) (RR : State → Outcome → Prop), OwnSt p l e rm s m as' below meth c Z y.cls bytes maxL ret y.name n0 0 Q RR s₁ h 0 0 → OwnGo p e below (s₁.setTop (entryFrame m as' maxL)) RR) :
    OwnMet l Z y bytes maxL ret rm as' h n0 Q := by
  intro ws
  refine MetFree.of_bodySF hpl hisR ?_
  intro p e s m args below meth c s₁ Bd hml0 hP hK
  obtain ⟨rfl, hZ, hh⟩ := hP
  refine body p e s m below meth c s₁ _ ⟨⟨Bd.exec, Bd.bytes, hml0, hZ, findClass_of_methodNamed Bd.named, (name_of_methodNamed Bd.named Bd.method).1, Bd.returns, Bd.notSynchronized, ?_⟩, by rw [← hh, Bd.state]; rfl, Nat.zero_le _, [], Stand.of_body Bd, Fr.nil n0⟩
  intro U v L hQ _ hN hW hs
  exact ⟨v, L, rfl, ⟨⟨hQ, by rw [← hh]; exact hs.2.1⟩, hN⟩, ⟨_, rfl⟩, hW, hs⟩
theorem own_enter {g g' : JFrame} (q : g = g') (k : OwnGo p e below (T.setTop g') RR) : OwnGo p e below (T.setTop g) RR := q ▸ k
theorem own_ret {v : Option Value} {g : State} (X : OwnSt p l e R s m args below meth c Z own bytes maxL ret nm n0 km Q RR T h cells slots) (hv : ret = none → v = none) (hQ : Q v h) (hc : cells ≤ R.cells) (hl : slots ≤ R.slots)
    (k : ∀ locs, Stand p l e R s m args below meth c T locs cells slots → ∀ fs, (∀ (f : JFrame) (acts : List Action), f.method = m → f.locked = none → f.entered = [] → (doReturn e (T.setTop f) acts v).1 = T.setFrames fs) → Steps p.tables e below g (T.setFrames fs)) : OwnGo p e below g RR := by
  obtain ⟨⟨hx, hby, hml, hZ, hown, hnm, hret, hlk, hR⟩, hh, hkm, locs, X0, N⟩ := X
  obtain ⟨fs, hr, hrun, hended, hW, hsame⟩ := X0.leave (v := v) (fun q => hv (hret ▸ q)) hlk
  exact ⟨_, _, k _ X0 fs hr, hrun, hended, hR _ _ _ (by show Q v T.heap; rw [hh]; exact hQ) (by show km ≤ T.heap.size; rw [hh]; exact hkm) N hW (hsame.mono hc hl)⟩
theorem own_retV (X : OwnSt p l e R s m args below meth c Z own bytes maxL none nm n0 km Q RR T h cells slots) (hd : decode bytes pc = .ok (.return_, 1)) (hQ : Q none h) (hc : cells ≤ R.cells) (hl : slots ≤ R.slots) : OwnGo p e below (T.setTop (mkF m pc Ls [])) RR := by
  refine own_ret X (fun _ => rfl) hQ hc hl fun locs X0 fs hr => ?_
  obtain ⟨⟨hx, hby, hml, hZ, hown, hnm, hret, hlk, hR⟩, hh, -⟩ := X
  exact X0.returnOut hx hret (hb hby hd) hr
theorem own_retI {z : Int32} {rest : List Value} (X : OwnSt p l e R s m args below meth c Z own bytes maxL (some .int) nm n0 km Q RR T h cells slots) (hd : decode bytes pc = .ok (.ireturn, 1)) (hQ : Q (some (.int z)) h) (hc : cells ≤ R.cells) (hl : slots ≤ R.slots) : OwnGo p e below (T.setTop (mkF m pc Ls (.int z :: rest))) RR := by
  refine own_ret X (fun q => nomatch q) hQ hc hl fun locs X0 fs hr => ?_
  obtain ⟨⟨hx, hby, hml, hZ, hown, hnm, hret, hlk, hR⟩, hh, -⟩ := X
  exact retOut X0 hx hret rfl (Or.inl ⟨rfl, Or.inl rfl, z, rfl⟩) (hb hby hd) hr
theorem own_retJ {z : Int64} {rest : List Value} (X : OwnSt p l e R s m args below meth c Z own bytes maxL (some .long) nm n0 km Q RR T h cells slots) (hd : decode bytes pc = .ok (.lreturn, 1)) (hQ : Q (some (.long z)) h) (hc : cells ≤ R.cells) (hl : slots ≤ R.slots) : OwnGo p e below (T.setTop (mkF m pc Ls (.long z :: rest))) RR := by
  refine own_ret X (fun q => nomatch q) hQ hc hl fun locs X0 fs hr => ?_
  obtain ⟨⟨hx, hby, hml, hZ, hown, hnm, hret, hlk, hR⟩, hh, -⟩ := X
  exact retOut X0 hx hret rfl (Or.inr (Or.inl ⟨rfl, rfl, z, rfl⟩)) (hb hby hd) hr
theorem own_retA {v : Value} {t : FieldType} {rest : List Value} (X : OwnSt p l e R s m args below meth c Z own bytes maxL (some t) nm n0 km Q RR T h cells slots) (ht : t.isReference = true) (hv : v.isRef = true) (hn : narrow t v = v) (hd : decode bytes pc = .ok (.areturn, 1)) (hQ : Q (some v) h) (hc : cells ≤ R.cells) (hl : slots ≤ R.slots) : OwnGo p e below (T.setTop (mkF m pc Ls (v :: rest))) RR := by
  refine own_ret X (fun q => nomatch q) hQ hc hl fun locs X0 fs hr => ?_
  obtain ⟨⟨hx, hby, hml, hZ, hown, hnm, hret, hlk, hR⟩, hh, -⟩ := X
  exact retOut X0 hx hret hn (Or.inr (Or.inr (Or.inr (Or.inr ⟨rfl, ht, hv⟩)))) (hb hby hd) hr
theorem own_retZ {z : Int32} {rest : List Value} (X : OwnSt p l e R s m args below meth c Z own bytes maxL (some .boolean) nm n0 km Q RR T h cells slots) (hd : decode bytes pc = .ok (.ireturn, 1)) (hz : z &&& 1 = z) (hQ : Q (some (.int z)) h) (hc : cells ≤ R.cells) (hl : slots ≤ R.slots) : OwnGo p e below (T.setTop (mkF m pc Ls (.int z :: rest))) RR := by
  refine own_ret X (fun q => nomatch q) hQ hc hl fun locs X0 fs hr => ?_
  obtain ⟨⟨hx, hby, hml, hZ, hown, hnm, hret, hlk, hR⟩, hh, -⟩ := X
  exact retOut X0 hx hret (by show Value.int (z &&& 1) = _; rw [hz]) (Or.inl ⟨rfl, Or.inr (Or.inl rfl), z, rfl⟩) (hb hby hd) hr
theorem OwnSt.here (X : OwnSt p l e R s m args below meth c Z own bytes maxL ret nm n0 km Q RR T h cells slots) : At T m c below := X.2.2.2.elim fun _ q => q.1.here
theorem OwnSt.hx (X : OwnSt p l e R s m args below meth c Z own bytes maxL ret nm n0 km Q RR T h cells slots) : p.tables.exec = Jvm.exec := X.1.1
theorem OwnSt.by' (X : OwnSt p l e R s m args below meth c Z own bytes maxL ret nm n0 km Q RR T h cells slots) : c.code = bytes := X.1.2.1
theorem OwnSt.hZ (X : OwnSt p l e R s m args below meth c Z own bytes maxL ret nm n0 km Q RR T h cells slots) : Z.Warmed39 s.vm := X.1.2.2.2.1
theorem own_aloadN {k : Fin 4} {v : Value} (X : OwnSt p l e R s m args below meth c Z own bytes maxL ret nm n0 km Q RR T h cells slots) (hd : decode bytes pc = .ok (.aload_n k, 1)) (hp : pc + 1 = pc') (hl : Ls[k.val]? = some (.val v)) (hv : v.isRef = true) (k : OwnGo p e below (T.setTop (mkF m pc' Ls (v :: S))) RR) : OwnGo p e below (T.setTop (mkF m pc Ls (S))) RR := by
  subst hp
  exact own_step k fun t k => XS.aloadN X.here X.hx rfl (hb X.by' hd) hl hv k
theorem own_aload {k : Nat} {v : Value} (X : OwnSt p l e R s m args below meth c Z own bytes maxL ret nm n0 km Q RR T h cells slots) (hd : decode bytes pc = .ok (.aload k, 2)) (hp : pc + 2 = pc') (hl : Ls[k]? = some (.val v)) (hv : v.isRef = true) (k : OwnGo p e below (T.setTop (mkF m pc' Ls (v :: S))) RR) : OwnGo p e below (T.setTop (mkF m pc Ls (S))) RR := by
  subst hp
  exact own_step k fun t k => XS.aload X.here X.hx rfl (hb X.by' hd) hl hv k
theorem own_iloadN {k : Fin 4} {v : Int32} (X : OwnSt p l e R s m args below meth c Z own bytes maxL ret nm n0 km Q RR T h cells slots) (hd : decode bytes pc = .ok (.iload_n k, 1)) (hp : pc + 1 = pc') (hl : Ls[k.val]? = some (.val (.int v))) (k : OwnGo p e below (T.setTop (mkF m pc' Ls (.int v :: S))) RR) : OwnGo p e below (T.setTop (mkF m pc Ls (S))) RR := by
  subst hp
  exact own_step k fun t k => XS.iloadN X.here X.hx rfl (hb X.by' hd) hl k
theorem own_iload {k : Nat} {v : Int32} (X : OwnSt p l e R s m args below meth c Z own bytes maxL ret nm n0 km Q RR T h cells slots) (hd : decode bytes pc = .ok (.iload k, 2)) (hp : pc + 2 = pc') (hl : Ls[k]? = some (.val (.int v))) (k : OwnGo p e below (T.setTop (mkF m pc' Ls (.int v :: S))) RR) : OwnGo p e below (T.setTop (mkF m pc Ls (S))) RR := by
  subst hp
  exact own_step k fun t k => XS.iload X.here X.hx rfl (hb X.by' hd) hl k
theorem own_lloadN {k : Fin 4} {v : Int64} (X : OwnSt p l e R s m args below meth c Z own bytes maxL ret nm n0 km Q RR T h cells slots) (hd : decode bytes pc = .ok (.lload_n k, 1)) (hp : pc + 1 = pc') (hl : Ls[k.val]? = some (.val (.long v))) (k : OwnGo p e below (T.setTop (mkF m pc' Ls (.long v :: S))) RR) : OwnGo p e below (T.setTop (mkF m pc Ls (S))) RR := by
  subst hp
  exact own_step k fun t k => XS.lloadN X.here X.hx rfl (hb X.by' hd) hl k
theorem own_lload {k : Nat} {v : Int64} (X : OwnSt p l e R s m args below meth c Z own bytes maxL ret nm n0 km Q RR T h cells slots) (hd : decode bytes pc = .ok (.lload k, 2)) (hp : pc + 2 = pc') (hl : Ls[k]? = some (.val (.long v))) (k : OwnGo p e below (T.setTop (mkF m pc' Ls (.long v :: S))) RR) : OwnGo p e below (T.setTop (mkF m pc Ls (S))) RR := by
  subst hp
  exact own_step k fun t k => XS.lload X.here X.hx rfl (hb X.by' hd) hl k
theorem own_iconst {i : Int} {v : Int32} (X : OwnSt p l e R s m args below meth c Z own bytes maxL ret nm n0 km Q RR T h cells slots) (hd : decode bytes pc = .ok (.iconst i, 1)) (hp : pc + 1 = pc') (hv : Int32.ofInt i = v) (k : OwnGo p e below (T.setTop (mkF m pc' Ls (.int v :: S))) RR) : OwnGo p e below (T.setTop (mkF m pc Ls (S))) RR := by
  subst hp
  subst hv
  exact own_step k fun t k => XS.iconst X.here X.hx rfl (hb X.by' hd) k
theorem own_bipush {i : Int} {v : Int32} (X : OwnSt p l e R s m args below meth c Z own bytes maxL ret nm n0 km Q RR T h cells slots) (hd : decode bytes pc = .ok (.bipush i, 2)) (hp : pc + 2 = pc') (hv : (Int8.ofInt i).toInt32 = v) (k : OwnGo p e below (T.setTop (mkF m pc' Ls (.int v :: S))) RR) : OwnGo p e below (T.setTop (mkF m pc Ls (S))) RR := by
  subst hp
  subst hv
  exact own_step k fun t k => XS.bipush X.here X.hx rfl (hb X.by' hd) k
theorem own_sipush {i : Int} {v : Int32} (X : OwnSt p l e R s m args below meth c Z own bytes maxL ret nm n0 km Q RR T h cells slots) (hd : decode bytes pc = .ok (.sipush i, 3)) (hp : pc + 3 = pc') (hv : (Int16.ofInt i).toInt32 = v) (k : OwnGo p e below (T.setTop (mkF m pc' Ls (.int v :: S))) RR) : OwnGo p e below (T.setTop (mkF m pc Ls (S))) RR := by
  subst hp
  subst hv
  exact own_step k fun t k => XS.sipush X.here X.hx rfl (hb X.by' hd) k
theorem own_lconst {i : Fin 2} {v : Int64} (X : OwnSt p l e R s m args below meth c Z own bytes maxL ret nm n0 km Q RR T h cells slots) (hd : decode bytes pc = .ok (.lconst i, 1)) (hp : pc + 1 = pc') (hv : Int64.ofNat i = v) (k : OwnGo p e below (T.setTop (mkF m pc' Ls (.long v :: S))) RR) : OwnGo p e below (T.setTop (mkF m pc Ls (S))) RR := by
  subst hp
  subst hv
  exact own_step k fun t k => XS.lconst X.here X.hx rfl (hb X.by' hd) k
theorem own_aconst_null  (X : OwnSt p l e R s m args below meth c Z own bytes maxL ret nm n0 km Q RR T h cells slots) (hd : decode bytes pc = .ok (.aconst_null, 1)) (hp : pc + 1 = pc')  (k : OwnGo p e below (T.setTop (mkF m pc' Ls (.null :: S))) RR) : OwnGo p e below (T.setTop (mkF m pc Ls (S))) RR := by
  subst hp
  exact own_step k fun t k => XS.aconstNull X.here X.hx rfl (hb X.by' hd) k
theorem own_iadd {x y : Int32} (X : OwnSt p l e R s m args below meth c Z own bytes maxL ret nm n0 km Q RR T h cells slots) (hd : decode bytes pc = .ok (.iadd, 1)) (hp : pc + 1 = pc')  (k : OwnGo p e below (T.setTop (mkF m pc' Ls (.int (x + y) :: S))) RR) : OwnGo p e below (T.setTop (mkF m pc Ls (.int y :: .int x :: S))) RR := by
  subst hp
  exact own_step k fun t k => XS.iadd X.here X.hx rfl (hb X.by' hd) rfl k
theorem own_isub {x y : Int32} (X : OwnSt p l e R s m args below meth c Z own bytes maxL ret nm n0 km Q RR T h cells slots) (hd : decode bytes pc = .ok (.isub, 1)) (hp : pc + 1 = pc')  (k : OwnGo p e below (T.setTop (mkF m pc' Ls (.int (x - y) :: S))) RR) : OwnGo p e below (T.setTop (mkF m pc Ls (.int y :: .int x :: S))) RR := by
  subst hp
  exact own_step k fun t k => XS.isub X.here X.hx rfl (hb X.by' hd) rfl k
theorem own_imul {x y : Int32} (X : OwnSt p l e R s m args below meth c Z own bytes maxL ret nm n0 km Q RR T h cells slots) (hd : decode bytes pc = .ok (.imul, 1)) (hp : pc + 1 = pc')  (k : OwnGo p e below (T.setTop (mkF m pc' Ls (.int (x * y) :: S))) RR) : OwnGo p e below (T.setTop (mkF m pc Ls (.int y :: .int x :: S))) RR := by
  subst hp
  exact own_step k fun t k => XS.imul X.here X.hx rfl (hb X.by' hd) rfl k
theorem own_iand {x y : Int32} (X : OwnSt p l e R s m args below meth c Z own bytes maxL ret nm n0 km Q RR T h cells slots) (hd : decode bytes pc = .ok (.iand, 1)) (hp : pc + 1 = pc')  (k : OwnGo p e below (T.setTop (mkF m pc' Ls (.int (x &&& y) :: S))) RR) : OwnGo p e below (T.setTop (mkF m pc Ls (.int y :: .int x :: S))) RR := by
  subst hp
  exact own_step k fun t k => XS.iand X.here X.hx rfl (hb X.by' hd) rfl k
theorem own_ior {x y : Int32} (X : OwnSt p l e R s m args below meth c Z own bytes maxL ret nm n0 km Q RR T h cells slots) (hd : decode bytes pc = .ok (.ior, 1)) (hp : pc + 1 = pc')  (k : OwnGo p e below (T.setTop (mkF m pc' Ls (.int (x ||| y) :: S))) RR) : OwnGo p e below (T.setTop (mkF m pc Ls (.int y :: .int x :: S))) RR := by
  subst hp
  exact own_step k fun t k => XS.ior X.here X.hx rfl (hb X.by' hd) rfl k
theorem own_ixor {x y : Int32} (X : OwnSt p l e R s m args below meth c Z own bytes maxL ret nm n0 km Q RR T h cells slots) (hd : decode bytes pc = .ok (.ixor, 1)) (hp : pc + 1 = pc')  (k : OwnGo p e below (T.setTop (mkF m pc' Ls (.int (x ^^^ y) :: S))) RR) : OwnGo p e below (T.setTop (mkF m pc Ls (.int y :: .int x :: S))) RR := by
  subst hp
  exact own_step k fun t k => XS.ixor X.here X.hx rfl (hb X.by' hd) rfl k
theorem own_ishl {x y : Int32} (X : OwnSt p l e R s m args below meth c Z own bytes maxL ret nm n0 km Q RR T h cells slots) (hd : decode bytes pc = .ok (.ishl, 1)) (hp : pc + 1 = pc')  (k : OwnGo p e below (T.setTop (mkF m pc' Ls (.int (x <<< (y &&& 31)) :: S))) RR) : OwnGo p e below (T.setTop (mkF m pc Ls (.int y :: .int x :: S))) RR := by
  subst hp
  exact own_step k fun t k => XS.ishl X.here X.hx rfl (hb X.by' hd) rfl k
theorem own_ishr {x y : Int32} (X : OwnSt p l e R s m args below meth c Z own bytes maxL ret nm n0 km Q RR T h cells slots) (hd : decode bytes pc = .ok (.ishr, 1)) (hp : pc + 1 = pc')  (k : OwnGo p e below (T.setTop (mkF m pc' Ls (.int (x >>> (y &&& 31)) :: S))) RR) : OwnGo p e below (T.setTop (mkF m pc Ls (.int y :: .int x :: S))) RR := by
  subst hp
  exact own_step k fun t k => XS.ishr X.here X.hx rfl (hb X.by' hd) rfl k
theorem own_iushr {x y : Int32} (X : OwnSt p l e R s m args below meth c Z own bytes maxL ret nm n0 km Q RR T h cells slots) (hd : decode bytes pc = .ok (.iushr, 1)) (hp : pc + 1 = pc')  (k : OwnGo p e below (T.setTop (mkF m pc' Ls (.int ((x.toUInt32 >>> (y &&& 31).toUInt32).toInt32) :: S))) RR) : OwnGo p e below (T.setTop (mkF m pc Ls (.int y :: .int x :: S))) RR := by
  subst hp
  exact own_step k fun t k => XS.iushr X.here X.hx rfl (hb X.by' hd) rfl k
theorem own_idiv {x y : Int32} (X : OwnSt p l e R s m args below meth c Z own bytes maxL ret nm n0 km Q RR T h cells slots) (hd : decode bytes pc = .ok (.idiv, 1)) (hp : pc + 1 = pc') (hy : y ≠ 0) (k : OwnGo p e below (T.setTop (mkF m pc' Ls (.int (x / y) :: S))) RR) : OwnGo p e below (T.setTop (mkF m pc Ls (.int y :: .int x :: S))) RR := by
  subst hp
  exact own_step k fun t k => XS.idiv X.here X.hx rfl (hb X.by' hd) rfl hy k
theorem own_irem {x y : Int32} (X : OwnSt p l e R s m args below meth c Z own bytes maxL ret nm n0 km Q RR T h cells slots) (hd : decode bytes pc = .ok (.irem, 1)) (hp : pc + 1 = pc') (hy : y ≠ 0) (k : OwnGo p e below (T.setTop (mkF m pc' Ls (.int (x % y) :: S))) RR) : OwnGo p e below (T.setTop (mkF m pc Ls (.int y :: .int x :: S))) RR := by
  subst hp
  exact own_step k fun t k => XS.irem X.here X.hx rfl (hb X.by' hd) rfl hy (by rw [irem_eq_mod]; exact k)
theorem own_ladd {x y : Int64} (X : OwnSt p l e R s m args below meth c Z own bytes maxL ret nm n0 km Q RR T h cells slots) (hd : decode bytes pc = .ok (.ladd, 1)) (hp : pc + 1 = pc')  (k : OwnGo p e below (T.setTop (mkF m pc' Ls (.long (x + y) :: S))) RR) : OwnGo p e below (T.setTop (mkF m pc Ls (.long y :: .long x :: S))) RR := by
  subst hp
  exact own_step k fun t k => XS.ladd X.here X.hx rfl (hb X.by' hd) rfl k
theorem own_lsub {x y : Int64} (X : OwnSt p l e R s m args below meth c Z own bytes maxL ret nm n0 km Q RR T h cells slots) (hd : decode bytes pc = .ok (.lsub, 1)) (hp : pc + 1 = pc')  (k : OwnGo p e below (T.setTop (mkF m pc' Ls (.long (x - y) :: S))) RR) : OwnGo p e below (T.setTop (mkF m pc Ls (.long y :: .long x :: S))) RR := by
  subst hp
  exact own_step k fun t k => XS.lsub X.here X.hx rfl (hb X.by' hd) rfl k
theorem own_lmul {x y : Int64} (X : OwnSt p l e R s m args below meth c Z own bytes maxL ret nm n0 km Q RR T h cells slots) (hd : decode bytes pc = .ok (.lmul, 1)) (hp : pc + 1 = pc')  (k : OwnGo p e below (T.setTop (mkF m pc' Ls (.long (x * y) :: S))) RR) : OwnGo p e below (T.setTop (mkF m pc Ls (.long y :: .long x :: S))) RR := by
  subst hp
  exact own_step k fun t k => XS.lmul X.here X.hx rfl (hb X.by' hd) rfl k
theorem own_land {x y : Int64} (X : OwnSt p l e R s m args below meth c Z own bytes maxL ret nm n0 km Q RR T h cells slots) (hd : decode bytes pc = .ok (.land, 1)) (hp : pc + 1 = pc')  (k : OwnGo p e below (T.setTop (mkF m pc' Ls (.long (x &&& y) :: S))) RR) : OwnGo p e below (T.setTop (mkF m pc Ls (.long y :: .long x :: S))) RR := by
  subst hp
  exact own_step k fun t k => XS.land X.here X.hx rfl (hb X.by' hd) rfl k
theorem own_lor {x y : Int64} (X : OwnSt p l e R s m args below meth c Z own bytes maxL ret nm n0 km Q RR T h cells slots) (hd : decode bytes pc = .ok (.lor, 1)) (hp : pc + 1 = pc')  (k : OwnGo p e below (T.setTop (mkF m pc' Ls (.long (x ||| y) :: S))) RR) : OwnGo p e below (T.setTop (mkF m pc Ls (.long y :: .long x :: S))) RR := by
  subst hp
  exact own_step k fun t k => XS.lor X.here X.hx rfl (hb X.by' hd) rfl k
theorem own_lxor {x y : Int64} (X : OwnSt p l e R s m args below meth c Z own bytes maxL ret nm n0 km Q RR T h cells slots) (hd : decode bytes pc = .ok (.lxor, 1)) (hp : pc + 1 = pc')  (k : OwnGo p e below (T.setTop (mkF m pc' Ls (.long (x ^^^ y) :: S))) RR) : OwnGo p e below (T.setTop (mkF m pc Ls (.long y :: .long x :: S))) RR := by
  subst hp
  exact own_step k fun t k => XS.lxor X.here X.hx rfl (hb X.by' hd) rfl k
theorem own_ldiv {x y : Int64} (X : OwnSt p l e R s m args below meth c Z own bytes maxL ret nm n0 km Q RR T h cells slots) (hd : decode bytes pc = .ok (.ldiv, 1)) (hp : pc + 1 = pc') (hy : y ≠ 0) (k : OwnGo p e below (T.setTop (mkF m pc' Ls (.long (x / y) :: S))) RR) : OwnGo p e below (T.setTop (mkF m pc Ls (.long y :: .long x :: S))) RR := by
  subst hp
  exact own_step k fun t k => XS.ldiv X.here X.hx rfl (hb X.by' hd) rfl hy k
theorem own_lrem {x y : Int64} (X : OwnSt p l e R s m args below meth c Z own bytes maxL ret nm n0 km Q RR T h cells slots) (hd : decode bytes pc = .ok (.lrem, 1)) (hp : pc + 1 = pc') (hy : y ≠ 0) (k : OwnGo p e below (T.setTop (mkF m pc' Ls (.long (x - (x / y) * y) :: S))) RR) : OwnGo p e below (T.setTop (mkF m pc Ls (.long y :: .long x :: S))) RR := by
  subst hp
  exact own_step k fun t k => XS.lrem X.here X.hx rfl (hb X.by' hd) rfl hy k
theorem own_lshl {x : Int64} {y : Int32} (X : OwnSt p l e R s m args below meth c Z own bytes maxL ret nm n0 km Q RR T h cells slots) (hd : decode bytes pc = .ok (.lshl, 1)) (hp : pc + 1 = pc')  (k : OwnGo p e below (T.setTop (mkF m pc' Ls (.long (x <<< (y &&& 0x3f).toInt64) :: S))) RR) : OwnGo p e below (T.setTop (mkF m pc Ls (.int y :: .long x :: S))) RR := by
  subst hp
  exact own_step k fun t k => XS.lshl X.here X.hx rfl (hb X.by' hd) rfl k
theorem own_lshr {x : Int64} {y : Int32} (X : OwnSt p l e R s m args below meth c Z own bytes maxL ret nm n0 km Q RR T h cells slots) (hd : decode bytes pc = .ok (.lshr, 1)) (hp : pc + 1 = pc')  (k : OwnGo p e below (T.setTop (mkF m pc' Ls (.long (x >>> (y &&& 0x3f).toInt64) :: S))) RR) : OwnGo p e below (T.setTop (mkF m pc Ls (.int y :: .long x :: S))) RR := by
  subst hp
  exact own_step k fun t k => XS.lshr X.here X.hx rfl (hb X.by' hd) rfl k
theorem own_lushr {x : Int64} {y : Int32} (X : OwnSt p l e R s m args below meth c Z own bytes maxL ret nm n0 km Q RR T h cells slots) (hd : decode bytes pc = .ok (.lushr, 1)) (hp : pc + 1 = pc')  (k : OwnGo p e below (T.setTop (mkF m pc' Ls (.long ((x.toUInt64 >>> (y &&& 0x3f).toInt64.toUInt64).toInt64) :: S))) RR) : OwnGo p e below (T.setTop (mkF m pc Ls (.int y :: .long x :: S))) RR := by
  subst hp
  exact own_step k fun t k => XS.lushr X.here X.hx rfl (hb X.by' hd) rfl k
theorem own_ineg {x : Int32} (X : OwnSt p l e R s m args below meth c Z own bytes maxL ret nm n0 km Q RR T h cells slots) (hd : decode bytes pc = .ok (.ineg, 1)) (hp : pc + 1 = pc')  (k : OwnGo p e below (T.setTop (mkF m pc' Ls (.int (-x) :: S))) RR) : OwnGo p e below (T.setTop (mkF m pc Ls (.int x :: S))) RR := by
  subst hp
  exact own_step k fun t k => XS.ineg X.here X.hx rfl (hb X.by' hd) rfl k
theorem own_lneg {x : Int64} (X : OwnSt p l e R s m args below meth c Z own bytes maxL ret nm n0 km Q RR T h cells slots) (hd : decode bytes pc = .ok (.lneg, 1)) (hp : pc + 1 = pc')  (k : OwnGo p e below (T.setTop (mkF m pc' Ls (.long (-x) :: S))) RR) : OwnGo p e below (T.setTop (mkF m pc Ls (.long x :: S))) RR := by
  subst hp
  exact own_step k fun t k => XS.lneg X.here X.hx rfl (hb X.by' hd) rfl k
theorem own_i2l {x : Int32} (X : OwnSt p l e R s m args below meth c Z own bytes maxL ret nm n0 km Q RR T h cells slots) (hd : decode bytes pc = .ok (.i2l, 1)) (hp : pc + 1 = pc')  (k : OwnGo p e below (T.setTop (mkF m pc' Ls (.long (x.toInt64) :: S))) RR) : OwnGo p e below (T.setTop (mkF m pc Ls (.int x :: S))) RR := by
  subst hp
  exact own_step k fun t k => XS.i2l X.here X.hx rfl (hb X.by' hd) rfl k
theorem own_l2i {x : Int64} (X : OwnSt p l e R s m args below meth c Z own bytes maxL ret nm n0 km Q RR T h cells slots) (hd : decode bytes pc = .ok (.l2i, 1)) (hp : pc + 1 = pc')  (k : OwnGo p e below (T.setTop (mkF m pc' Ls (.int (x.toInt32) :: S))) RR) : OwnGo p e below (T.setTop (mkF m pc Ls (.long x :: S))) RR := by
  subst hp
  exact own_step k fun t k => XS.l2i X.here X.hx rfl (hb X.by' hd) rfl k
theorem own_i2b {x : Int32} (X : OwnSt p l e R s m args below meth c Z own bytes maxL ret nm n0 km Q RR T h cells slots) (hd : decode bytes pc = .ok (.i2b, 1)) (hp : pc + 1 = pc')  (k : OwnGo p e below (T.setTop (mkF m pc' Ls (.int (x.toInt8.toInt32) :: S))) RR) : OwnGo p e below (T.setTop (mkF m pc Ls (.int x :: S))) RR := by
  subst hp
  exact own_step k fun t k => XS.i2b X.here X.hx rfl (hb X.by' hd) rfl k
theorem own_i2s {x : Int32} (X : OwnSt p l e R s m args below meth c Z own bytes maxL ret nm n0 km Q RR T h cells slots) (hd : decode bytes pc = .ok (.i2s, 1)) (hp : pc + 1 = pc')  (k : OwnGo p e below (T.setTop (mkF m pc' Ls (.int (x.toInt16.toInt32) :: S))) RR) : OwnGo p e below (T.setTop (mkF m pc Ls (.int x :: S))) RR := by
  subst hp
  exact own_step k fun t k => XS.i2s X.here X.hx rfl (hb X.by' hd) rfl k
theorem own_i2c {x : Int32} (X : OwnSt p l e R s m args below meth c Z own bytes maxL ret nm n0 km Q RR T h cells slots) (hd : decode bytes pc = .ok (.i2c, 1)) (hp : pc + 1 = pc')  (k : OwnGo p e below (T.setTop (mkF m pc' Ls (.int (x.toUInt32.toUInt16.toUInt32.toInt32) :: S))) RR) : OwnGo p e below (T.setTop (mkF m pc Ls (.int x :: S))) RR := by
  subst hp
  exact own_step k fun t k => XS.i2c X.here X.hx rfl (hb X.by' hd) rfl k
theorem own_dup {x : Value} (X : OwnSt p l e R s m args below meth c Z own bytes maxL ret nm n0 km Q RR T h cells slots) (hd : decode bytes pc = .ok (.dup, 1)) (hp : pc + 1 = pc') (hc : x.category = 1) (k : OwnGo p e below (T.setTop (mkF m pc' Ls (x :: x :: S))) RR) : OwnGo p e below (T.setTop (mkF m pc Ls (x :: S))) RR := by
  subst hp
  exact own_step k fun t k => XS.dup X.here X.hx rfl (hb X.by' hd) rfl hc k
theorem own_pop {x : Value} (X : OwnSt p l e R s m args below meth c Z own bytes maxL ret nm n0 km Q RR T h cells slots) (hd : decode bytes pc = .ok (.pop, 1)) (hp : pc + 1 = pc') (hc : x.category = 1) (k : OwnGo p e below (T.setTop (mkF m pc' Ls (S))) RR) : OwnGo p e below (T.setTop (mkF m pc Ls (x :: S))) RR := by
  subst hp
  exact own_step k fun t k => XS.pop X.here X.hx rfl (hb X.by' hd) rfl hc k
theorem own_dup_x1 {x y : Value} (X : OwnSt p l e R s m args below meth c Z own bytes maxL ret nm n0 km Q RR T h cells slots) (hd : decode bytes pc = .ok (.dup_x1, 1)) (hp : pc + 1 = pc') (hc : x.category = 1) (hc' : y.category = 1) (k : OwnGo p e below (T.setTop (mkF m pc' Ls (x :: y :: x :: S))) RR) : OwnGo p e below (T.setTop (mkF m pc Ls (x :: y :: S))) RR := by
  subst hp
  exact own_step k fun t k => XS.dupX1 X.here X.hx rfl (hb X.by' hd) rfl hc hc' k
theorem own_istoreN {k : Fin 4} {x : Int32} {l' : Array Slot} (X : OwnSt p l e R s m args below meth c Z own bytes maxL ret nm n0 km Q RR T h cells slots) (hd : decode bytes pc = .ok (.istore_n k, 1)) (hp : pc + 1 = pc') (hl : storeLocals Ls k.val (.int x) = some l') (k : OwnGo p e below (T.setTop (mkF m pc' l' (S))) RR) : OwnGo p e below (T.setTop (mkF m pc Ls (.int x :: S))) RR := by
  subst hp
  exact own_step k fun t k => XS.istoreN X.here X.hx rfl (hb X.by' hd) rfl hl k
theorem own_istoreNV {k : Fin 4} {x : Int32} {l' : Int32 → Array Slot} (X : OwnSt p l e R s m args below meth c Z own bytes maxL ret nm n0 km Q RR T h cells slots) (hd : decode bytes pc = .ok (.istore_n k, 1)) (hp : pc + 1 = pc') (hl : ∀ v, storeLocals Ls k.val (.int v) = some (l' v)) (k : ∀ v, v = x → OwnGo p e below (T.setTop (mkF m pc' (l' v) (S))) RR) : OwnGo p e below (T.setTop (mkF m pc Ls (.int x :: S))) RR := by
  subst hp
  exact own_step (k _ rfl) fun t k => XS.istoreN X.here X.hx rfl (hb X.by' hd) rfl (hl _) k
theorem own_istore {k : Nat} {x : Int32} {l' : Array Slot} (X : OwnSt p l e R s m args below meth c Z own bytes maxL ret nm n0 km Q RR T h cells slots) (hd : decode bytes pc = .ok (.istore k, 2)) (hp : pc + 2 = pc') (hl : storeLocals Ls k (.int x) = some l') (k : OwnGo p e below (T.setTop (mkF m pc' l' (S))) RR) : OwnGo p e below (T.setTop (mkF m pc Ls (.int x :: S))) RR := by
  subst hp
  exact own_step k fun t k => XS.istore X.here X.hx rfl (hb X.by' hd) rfl hl k
theorem own_istoreV {k : Nat} {x : Int32} {l' : Int32 → Array Slot} (X : OwnSt p l e R s m args below meth c Z own bytes maxL ret nm n0 km Q RR T h cells slots) (hd : decode bytes pc = .ok (.istore k, 2)) (hp : pc + 2 = pc') (hl : ∀ v, storeLocals Ls k (.int v) = some (l' v)) (k : ∀ v, v = x → OwnGo p e below (T.setTop (mkF m pc' (l' v) (S))) RR) : OwnGo p e below (T.setTop (mkF m pc Ls (.int x :: S))) RR := by
  subst hp
  exact own_step (k _ rfl) fun t k => XS.istore X.here X.hx rfl (hb X.by' hd) rfl (hl _) k
theorem own_lstoreN {k : Fin 4} {x : Int64} {l' : Array Slot} (X : OwnSt p l e R s m args below meth c Z own bytes maxL ret nm n0 km Q RR T h cells slots) (hd : decode bytes pc = .ok (.lstore_n k, 1)) (hp : pc + 1 = pc') (hl : storeLocals Ls k.val (.long x) = some l') (k : OwnGo p e below (T.setTop (mkF m pc' l' (S))) RR) : OwnGo p e below (T.setTop (mkF m pc Ls (.long x :: S))) RR := by
  subst hp
  exact own_step k fun t k => XS.lstoreN X.here X.hx rfl (hb X.by' hd) rfl hl k
theorem own_lstoreNV {k : Fin 4} {x : Int64} {l' : Int64 → Array Slot} (X : OwnSt p l e R s m args below meth c Z own bytes maxL ret nm n0 km Q RR T h cells slots) (hd : decode bytes pc = .ok (.lstore_n k, 1)) (hp : pc + 1 = pc') (hl : ∀ v, storeLocals Ls k.val (.long v) = some (l' v)) (k : ∀ v, v = x → OwnGo p e below (T.setTop (mkF m pc' (l' v) (S))) RR) : OwnGo p e below (T.setTop (mkF m pc Ls (.long x :: S))) RR := by
  subst hp
  exact own_step (k _ rfl) fun t k => XS.lstoreN X.here X.hx rfl (hb X.by' hd) rfl (hl _) k
theorem own_lstore {k : Nat} {x : Int64} {l' : Array Slot} (X : OwnSt p l e R s m args below meth c Z own bytes maxL ret nm n0 km Q RR T h cells slots) (hd : decode bytes pc = .ok (.lstore k, 2)) (hp : pc + 2 = pc') (hl : storeLocals Ls k (.long x) = some l') (k : OwnGo p e below (T.setTop (mkF m pc' l' (S))) RR) : OwnGo p e below (T.setTop (mkF m pc Ls (.long x :: S))) RR := by
  subst hp
  exact own_step k fun t k => XS.lstore X.here X.hx rfl (hb X.by' hd) rfl hl k
theorem own_lstoreV {k : Nat} {x : Int64} {l' : Int64 → Array Slot} (X : OwnSt p l e R s m args below meth c Z own bytes maxL ret nm n0 km Q RR T h cells slots) (hd : decode bytes pc = .ok (.lstore k, 2)) (hp : pc + 2 = pc') (hl : ∀ v, storeLocals Ls k (.long v) = some (l' v)) (k : ∀ v, v = x → OwnGo p e below (T.setTop (mkF m pc' (l' v) (S))) RR) : OwnGo p e below (T.setTop (mkF m pc Ls (.long x :: S))) RR := by
  subst hp
  exact own_step (k _ rfl) fun t k => XS.lstore X.here X.hx rfl (hb X.by' hd) rfl (hl _) k
theorem own_astoreN {k : Fin 4} {x : Value} {l' : Array Slot} (X : OwnSt p l e R s m args below meth c Z own bytes maxL ret nm n0 km Q RR T h cells slots) (hd : decode bytes pc = .ok (.astore_n k, 1)) (hp : pc + 1 = pc') (hv : x.isRef = true) (hl : storeLocals Ls k.val x = some l') (k : OwnGo p e below (T.setTop (mkF m pc' l' (S))) RR) : OwnGo p e below (T.setTop (mkF m pc Ls (x :: S))) RR := by
  subst hp
  exact own_step k fun t k => XS.astoreN X.here X.hx rfl (hb X.by' hd) rfl hv hl k
theorem own_astore {k : Nat} {x : Value} {l' : Array Slot} (X : OwnSt p l e R s m args below meth c Z own bytes maxL ret nm n0 km Q RR T h cells slots) (hd : decode bytes pc = .ok (.astore k, 2)) (hp : pc + 2 = pc') (hv : x.isRef = true) (hl : storeLocals Ls k x = some l') (k : OwnGo p e below (T.setTop (mkF m pc' l' (S))) RR) : OwnGo p e below (T.setTop (mkF m pc Ls (x :: S))) RR := by
  subst hp
  exact own_step k fun t k => XS.astore X.here X.hx rfl (hb X.by' hd) rfl hv hl k
theorem own_iinc {k : Nat} {d : Int} {x y : Int32} {l' : Array Slot} (X : OwnSt p l e R s m args below meth c Z own bytes maxL ret nm n0 km Q RR T h cells slots) (hd : decode bytes pc = .ok (.iinc k d, 3)) (hp : pc + 3 = pc') (hx' : Ls[k]? = some (.val (.int x))) (hy : x + Int32.ofInt d = y) (hl : storeLocals Ls k (.int y) = some l') (k : OwnGo p e below (T.setTop (mkF m pc' l' (S))) RR) : OwnGo p e below (T.setTop (mkF m pc Ls (S))) RR := by
  subst hp
  subst hy
  exact own_step k fun t k => XS.iinc X.here X.hx rfl (hb X.by' hd) hx' hl k
theorem own_ifnonnullN {o : Int} (X : OwnSt p l e R s m args below meth c Z own bytes maxL ret nm n0 km Q RR T h cells slots) (hd : decode bytes pc = .ok (.ifnonnull o, 3)) (hp : pc + 3 = pc')  (k : OwnGo p e below (T.setTop (mkF m pc' Ls (S))) RR) : OwnGo p e below (T.setTop (mkF m pc Ls (.null :: S))) RR := by
  subst hp
  exact own_step k fun t k => XS.ifnonnullNo X.here X.hx rfl (hb X.by' hd) rfl k
theorem own_ifnullN {o : Int} {b : Addr} (X : OwnSt p l e R s m args below meth c Z own bytes maxL ret nm n0 km Q RR T h cells slots) (hd : decode bytes pc = .ok (.ifnull o, 3)) (hp : pc + 3 = pc')  (k : OwnGo p e below (T.setTop (mkF m pc' Ls (S))) RR) : OwnGo p e below (T.setTop (mkF m pc Ls (.ref b :: S))) RR := by
  subst hp
  exact own_step k fun t k => XS.ifnullNo X.here X.hx rfl (hb X.by' hd) rfl k
theorem own_ifnonnullY {o : Int} {b : Addr} (X : OwnSt p l e R s m args below meth c Z own bytes maxL ret nm n0 km Q RR T h cells slots) (hd : decode bytes pc = .ok (.ifnonnull o, 3)) (hp : ((pc : Int) + o).toNat = pc') (ho : 0 ≤ (pc : Int) + o) (k : OwnGo p e below (T.setTop (mkF m pc' Ls S)) RR) : OwnGo p e below (T.setTop (mkF m pc Ls (.ref b :: S))) RR :=
  own_step k fun t k => XS.ifnonnullYes X.here X.hx rfl (pc0 := pc) rfl (hb X.by' hd) rfl ho hp k
theorem own_ifnullY {o : Int} (X : OwnSt p l e R s m args below meth c Z own bytes maxL ret nm n0 km Q RR T h cells slots) (hd : decode bytes pc = .ok (.ifnull o, 3)) (hp : ((pc : Int) + o).toNat = pc') (ho : 0 ≤ (pc : Int) + o) (k : OwnGo p e below (T.setTop (mkF m pc' Ls S)) RR) : OwnGo p e below (T.setTop (mkF m pc Ls (.null :: S))) RR :=
  own_step k fun t k => XS.ifnullYes X.here X.hx rfl (pc0 := pc) rfl (hb X.by' hd) rfl ho hp k
theorem own_ldcInt {i : Nat} {v : Int32} (X : OwnSt p l e R s m args below meth c Z own bytes maxL ret nm n0 km Q RR T h cells slots) (hd : decode bytes pc = .ok (.ldc i, 2)) (hp : pc + 2 = pc') (w : (Cond.constant own i v).before a0 Z = true) (k : OwnGo p e below (T.setTop (mkF m pc' Ls (.int v :: S))) RR) : OwnGo p e below (T.setTop (mkF m pc Ls S)) RR := by
  subst hp
  obtain ⟨C, hh, hkm, locs, X0, N⟩ := id X
  exact own_step k (X0.ldcInt X.hx C.2.2.2.2.1 (mvT X.hZ w) (g := mkF m pc Ls S) rfl (hb X.by' hd))
theorem own_ldc2Long {i : Nat} {v : Int64} (X : OwnSt p l e R s m args below meth c Z own bytes maxL ret nm n0 km Q RR T h cells slots) (hd : decode bytes pc = .ok (.ldc2_w i, 3)) (hp : pc + 3 = pc') (w : (Cond.constantLong own i v).before a0 Z = true) (k : OwnGo p e below (T.setTop (mkF m pc' Ls (.long v :: S))) RR) : OwnGo p e below (T.setTop (mkF m pc Ls S)) RR := by
  subst hp
  obtain ⟨C, hh, hkm, locs, X0, N⟩ := id X
  exact own_step k (X0.ldc2Long X.hx C.2.2.2.2.1 (mvT X.hZ w) (g := mkF m pc Ls S) rfl (hb X.by' hd))
/-! forks -/
theorem own_ifY {cd : ClassFile.Cond} {x : Int32} {o : Int} (X : OwnSt p l e R s m args below meth c Z own bytes maxL ret nm n0 km Q RR T h cells slots) (hd : decode bytes pc = .ok (.ifCond cd o, 3)) (hc : if_icmp.holds cd x 0 = true) (hp : ((pc : Int) + o).toNat = pc') (ho : 0 ≤ (pc : Int) + o) (k : OwnGo p e below (T.setTop (mkF m pc' Ls S)) RR) : OwnGo p e below (T.setTop (mkF m pc Ls (.int x :: S))) RR :=
  own_step k fun t k => XS.ifYes X.here X.hx rfl (pc0 := pc) rfl (hb X.by' hd) rfl ((if0 _ _).trans hc) ho hp k
theorem own_ifN {cd : ClassFile.Cond} {x : Int32} {o : Int} (X : OwnSt p l e R s m args below meth c Z own bytes maxL ret nm n0 km Q RR T h cells slots) (hd : decode bytes pc = .ok (.ifCond cd o, 3)) (hc : if_icmp.holds cd x 0 = false) (hp : pc + 3 = pc') (k : OwnGo p e below (T.setTop (mkF m pc' Ls S)) RR) : OwnGo p e below (T.setTop (mkF m pc Ls (.int x :: S))) RR := by
  subst hp
  exact own_step k fun t k => XS.ifNo X.here X.hx rfl (hb X.by' hd) rfl ((if0 _ _).trans hc) k
theorem own_icY {cd : ClassFile.Cond} {x y : Int32} {o : Int} (X : OwnSt p l e R s m args below meth c Z own bytes maxL ret nm n0 km Q RR T h cells slots) (hd : decode bytes pc = .ok (.if_icmp cd o, 3)) (hc : if_icmp.holds cd x y = true) (hp : ((pc : Int) + o).toNat = pc') (ho : 0 ≤ (pc : Int) + o) (k : OwnGo p e below (T.setTop (mkF m pc' Ls S)) RR) : OwnGo p e below (T.setTop (mkF m pc Ls (.int y :: .int x :: S))) RR :=
  own_step k fun t k => XS.icmpYes X.here X.hx rfl (pc0 := pc) rfl (hb X.by' hd) rfl hc ho hp k
theorem own_icN {cd : ClassFile.Cond} {x y : Int32} {o : Int} (X : OwnSt p l e R s m args below meth c Z own bytes maxL ret nm n0 km Q RR T h cells slots) (hd : decode bytes pc = .ok (.if_icmp cd o, 3)) (hc : if_icmp.holds cd x y = false) (hp : pc + 3 = pc') (k : OwnGo p e below (T.setTop (mkF m pc' Ls S)) RR) : OwnGo p e below (T.setTop (mkF m pc Ls (.int y :: .int x :: S))) RR := by
  subst hp
  exact own_step k fun t k => XS.icmpNo X.here X.hx rfl (hb X.by' hd) rfl hc k
def ownLc (cd : ClassFile.Cond) (x y : Int64) : Bool := match cd with
  | .eq => decide (x = y) | .ne => !decide (x = y) | .lt => decide (x < y) | .ge => !decide (x < y) | .gt => decide (y < x) | .le => !decide (y < x)
theorem own_lc (cd : ClassFile.Cond) (x y : Int64) : if_icmp.holds cd (lcmpW x y) 0 = ownLc cd x y := by
  rw [lcW]
  have h1 := lc_eq x y
  have h2 := lc_lt x y
  have h3 := lc_gt x y
  cases cd <;> simp only [ownLc]
  · by_cases q : x = y
    · rw [(teq (h1.mpr q)).1]; simp [q]
    · rw [(feq fun w => q (h1.mp w)).1]; simp [q]
  · by_cases q : x = y
    · rw [(teq (h1.mpr q)).2]; simp [q]
    · rw [(feq fun w => q (h1.mp w)).2]; simp [q]
  · by_cases q : x < y
    · rw [(tlt (h2.mpr q)).1]; simp [q]
    · rw [(flt fun w => q (h2.mp w)).1]; simp [q]
  · by_cases q : x < y
    · rw [(tlt (h2.mpr q)).2.1]; simp [q]
    · rw [(flt fun w => q (h2.mp w)).2.1]; simp [q]
  · by_cases q : y < x
    · rw [(tlt (h3.mpr q)).2.2.1]; simp [q]
    · rw [(flt fun w => q (h3.mp w)).2.2.1]; simp [q]
  · by_cases q : y < x
    · rw [(tlt (h3.mpr q)).2.2.2]; simp [q]
    · rw [(flt fun w => q (h3.mp w)).2.2.2]; simp [q]
theorem own_ljY {cd : ClassFile.Cond} {x y : Int64} {o : Int} (X : OwnSt p l e R s m args below meth c Z own bytes maxL ret nm n0 km Q RR T h cells slots) (hd : decode bytes pc = .ok (.lcmp, 1)) (hd2 : decode bytes (pc + 1) = .ok (.ifCond cd o, 3)) (hc : ownLc cd x y = true) (hp : (((pc + 1 : Nat) : Int) + o).toNat = pc') (ho : 0 ≤ ((pc + 1 : Nat) : Int) + o) (k : OwnGo p e below (T.setTop (mkF m pc' Ls S)) RR) : OwnGo p e below (T.setTop (mkF m pc Ls (.long y :: .long x :: S))) RR :=
  own_step (own_ifY (pc := pc + 1) (x := lcmpW x y) X hd2 ((own_lc cd x y).trans hc) hp ho k) fun t k => XS.lcmp X.here X.hx rfl (hb X.by' hd) rfl k
theorem own_ljN {cd : ClassFile.Cond} {x y : Int64} {o : Int} (X : OwnSt p l e R s m args below meth c Z own bytes maxL ret nm n0 km Q RR T h cells slots) (hd : decode bytes pc = .ok (.lcmp, 1)) (hd2 : decode bytes (pc + 1) = .ok (.ifCond cd o, 3)) (hc : ownLc cd x y = false) (hp : pc + 4 = pc') (k : OwnGo p e below (T.setTop (mkF m pc' Ls S)) RR) : OwnGo p e below (T.setTop (mkF m pc Ls (.long y :: .long x :: S))) RR :=
  own_step (own_ifN (pc := pc + 1) (x := lcmpW x y) X hd2 ((own_lc cd x y).trans hc) hp k) fun t k => XS.lcmp X.here X.hx rfl (hb X.by' hd) rfl k
theorem own_teqA {a b : Addr} (h : a = b) : if_acmp.holds .eq (some a) (some b) = true ∧ if_acmp.holds .ne (some a) (some b) = false := by simp [if_acmp.holds, h]
theorem own_feqA {a b : Addr} (h : ¬ a = b) : if_acmp.holds .eq (some a) (some b) = false ∧ if_acmp.holds .ne (some a) (some b) = true := by simp [if_acmp.holds, h]
theorem own_acY {cd : ClassFile.ACond} {a b : Addr} {o : Int} (X : OwnSt p l e R s m args below meth c Z own bytes maxL ret nm n0 km Q RR T h cells slots) (hd : decode bytes pc = .ok (.if_acmp cd o, 3)) (hc : if_acmp.holds cd (some a) (some b) = true) (hp : ((pc : Int) + o).toNat = pc') (ho : 0 ≤ (pc : Int) + o) (k : OwnGo p e below (T.setTop (mkF m pc' Ls S)) RR) : OwnGo p e below (T.setTop (mkF m pc Ls (.ref b :: .ref a :: S))) RR :=
  own_step k fun t k => XS.acmpYes X.here X.hx rfl (pc0 := pc) rfl (hb X.by' hd) rfl hc ho hp k
theorem own_acN {cd : ClassFile.ACond} {a b : Addr} {o : Int} (X : OwnSt p l e R s m args below meth c Z own bytes maxL ret nm n0 km Q RR T h cells slots) (hd : decode bytes pc = .ok (.if_acmp cd o, 3)) (hc : if_acmp.holds cd (some a) (some b) = false) (hp : pc + 3 = pc') (k : OwnGo p e below (T.setTop (mkF m pc' Ls S)) RR) : OwnGo p e below (T.setTop (mkF m pc Ls (.ref b :: .ref a :: S))) RR := by
  subst hp
  exact own_step k fun t k => XS.acmpNo X.here X.hx rfl (hb X.by' hd) rfl hc k
theorem own_goto {o : Int} (X : OwnSt p l e R s m args below meth c Z own bytes maxL ret nm n0 km Q RR T h cells slots) (hd : decode bytes pc = .ok (.goto o, 3)) (hp : ((pc : Int) + o).toNat = pc') (ho : 0 ≤ (pc : Int) + o) (k : OwnGo p e below (T.setTop (mkF m pc' Ls S)) RR) : OwnGo p e below (T.setTop (mkF m pc Ls S)) RR :=
  own_step k fun t k => XS.goto X.here X.hx rfl (pc0 := pc) rfl (hb X.by' hd) ho hp k
theorem own_tltL {x y : Int64} (h : x < y) : ownLc .lt x y = true ∧ ownLc .ge x y = false ∧ ownLc .gt y x = true ∧ ownLc .le y x = false := by simp [ownLc, h]
theorem own_fltL {x y : Int64} (h : ¬ x < y) : ownLc .lt x y = false ∧ ownLc .ge x y = true ∧ ownLc .gt y x = false ∧ ownLc .le y x = true := by simp [ownLc, h]
theorem own_teqL {x y : Int64} (h : x = y) : ownLc .eq x y = true ∧ ownLc .ne x y = false := by simp [ownLc, h]
theorem own_feqL {x y : Int64} (h : ¬ x = y) : ownLc .eq x y = false ∧ ownLc .ne x y = true := by simp [ownLc, h]
/-- the same stand at another state with the same heap; with another heap -/
abbrev OwnAt (X : OwnSt p l e R s m args below meth c Z own bytes maxL ret nm n0 km Q RR T h cells slots) (T' : State) : Prop := OwnSt p l e R s m args below meth c Z own bytes maxL ret nm n0 km Q RR T' h cells slots
abbrev OwnAtH (X : OwnSt p l e R s m args below meth c Z own bytes maxL ret nm n0 km Q RR T h cells slots) (T' : State) (h' : Heap) : Prop := OwnSt p l e R s m args below meth c Z own bytes maxL ret nm n0 km Q RR T' h' cells slots
/-! heap steps -/
theorem own_init {index : Nat} {a : Addr} (X : OwnSt p l e R s m args below meth c Z own bytes maxL ret nm n0 km Q RR T h cells slots) (hd : decode bytes pc = .ok (.invokespecial index, 3)) (w1 : (Cond.methodLink own index Lib.objectInit).before a0 Z = true) (w2 : (Cond.instanceMethod Lib.objectInit).before a0 Z = true) (w3 : (Cond.code Lib.objectInit ⟨#[0xb1]⟩ 1 none).before a0 Z = true)
    (hp : pc + 3 = pc') (hsz : Ls.size = maxL) (hf : 1 ≤ R.frames) {W : Nat} (hW : 0 + (S.map fun v => v.category).sum ≤ W) (hlo : W + 12 ≤ R.locals)
    (k : ∀ T', OwnSt p l e R s m args below meth c Z own bytes maxL ret nm n0 km Q RR T' h cells slots → OwnGo p e below (T'.setTop (mkF m pc' Ls S)) RR) : OwnGo p e below (T.setTop (mkF m pc Ls (.ref a :: S))) RR := by
  subst hp
  obtain ⟨C, hh, hkm, locs, X0, N⟩ := X
  obtain ⟨hx, hby, hml, hZ, hown, hnm, hret, hlk, hR⟩ := id C
  obtain ⟨T', X', e', st⟩ := initO X0 hx hZ hown w1 w2 w3 hh (g := mkF m pc Ls (.ref a :: S)) rfl (hsz.trans hml.symm) rfl (hb hby hd) hf hW hlo
  exact own_step (k T' ⟨C, e', hkm, locs, X', N⟩) st
theorem own_new {index n : Nat} {K : String} (X : OwnSt p l e R s m args below meth c Z own bytes maxL ret nm n0 km Q RR T h cells slots) (hd : decode bytes pc = .ok (.new index, 3)) (w1 : (Cond.classLink own index K).before a0 Z = true) (w2 : (Cond.instantiable K n).before a0 Z = true) (w3 : (Cond.initialized K).before a0 Z = true)
    (hp : pc + 3 = pc') (hc : cells + 1 ≤ R.cells) (hl : slots + n ≤ R.slots)
    (k : ∀ T' h' b, b = h.size → OwnSt p l e R s m args below meth c Z own bytes maxL ret nm n0 km Q RR T' h' (cells + 1) (slots + n) → Ext h h' → Exa Z h' b K → (∀ {O nm d : String} {ty : FieldType}, Laid Z a0 K O nm d → parseFieldDescriptor d = some ty → Fld Z h' b O nm d (defaultValue ty)) → OwnGo p e below (T'.setTop (mkF m pc' Ls (.ref b :: S))) RR) : OwnGo p e below (T.setTop (mkF m pc Ls S)) RR := by
  subst hp
  obtain ⟨C, hh, hkm, locs, X0, N⟩ := X
  obtain ⟨hx, hby, hml, hZ, hown, hnm, hret, hlk, hR⟩ := id C
  obtain ⟨T', h', X', e', E', A', D', -, st⟩ := newO X0 hx hZ hown w1 w2 w3 hh (g := mkF m pc Ls S) rfl (hb hby hd) hc hl
  exact own_step (k T' h' _ rfl ⟨C, e', Nat.le_trans hkm E'.1, locs, X', N⟩ E' A' D') st
theorem own_getF {index : Nat} {O n d R0 : String} {a : Addr} {v : Value} (X : OwnSt p l e R s m args below meth c Z own bytes maxL ret nm n0 km Q RR T h cells slots) (hd : decode bytes pc = .ok (.getfield index, 3)) (w : (Cond.fieldLink own index R0 n d).before a0 Z = true) (via : Via Z R0 O n d) (F : Fld Z h a O n d v) (hp : pc + 3 = pc')
    (k : ∀ T', OwnSt p l e R s m args below meth c Z own bytes maxL ret nm n0 km Q RR T' h cells slots → OwnGo p e below (T'.setTop (mkF m pc' Ls (v :: S))) RR) : OwnGo p e below (T.setTop (mkF m pc Ls (.ref a :: S))) RR := by
  subst hp
  obtain ⟨C, hh, hkm, locs, X0, N⟩ := X
  obtain ⟨hx, hby, hml, hZ, hown, hnm, hret, hlk, hR⟩ := id C
  obtain ⟨T', X', e', st⟩ := getF X0 hx hZ hown (host := "") (Or.inl w) via hh F (g := mkF m pc Ls (.ref a :: S)) rfl rfl (hb hby hd)
  exact own_step (k T' ⟨C, e', hkm, locs, X', N⟩) st
theorem own_getS {index : Nat} {O n d R0 : String} {v : Value} (X : OwnSt p l e R s m args below meth c Z own bytes maxL ret nm n0 km Q RR T h cells slots) (hd : decode bytes pc = .ok (.getstatic index, 3)) (w : (Cond.fieldLink own index R0 n d).before a0 Z = true) (via : Via Z R0 O n d) (F : Sta Z h O n d v) (hp : pc + 3 = pc')
    (k : ∀ T', OwnSt p l e R s m args below meth c Z own bytes maxL ret nm n0 km Q RR T' h cells slots → OwnGo p e below (T'.setTop (mkF m pc' Ls (v :: S))) RR) : OwnGo p e below (T.setTop (mkF m pc Ls S)) RR := by
  subst hp
  obtain ⟨C, hh, hkm, locs, X0, N⟩ := X
  obtain ⟨hx, hby, hml, hZ, hown, hnm, hret, hlk, hR⟩ := id C
  obtain ⟨T', X', e', st⟩ := getS X0 hx hZ (host := "") hown w via hh F (g := mkF m pc Ls S) rfl (hb hby hd)
  exact own_step (k T' ⟨C, e', hkm, locs, X', N⟩) st
theorem own_putF {index kk : Nat} {O n d R0 K : String} {a : Addr} {v v' old : Value} {ty : FieldType} (X : OwnSt p l e R s m args below meth c Z own bytes maxL ret nm n0 km Q RR T h cells slots) (hd : decode bytes pc = .ok (.putfield index, 3)) (w : (Cond.fieldLink own index R0 n d).before a0 Z = true) (via : Via Z R0 O n d) (F : Fld Z h a O n d old) (E : Exa Z h a K) (L : (Cond.lays K O n d).before a0 Z = true ∨ ((Cond.laysFinal K O n d).before a0 Z = true ∧ own = O ∧ nm = "<init>")) (wi : (Cond.instantiable K kk).before a0 Z = true)
    (hty : parseFieldDescriptor d = some ty) (hn : narrow ty v = v') (hf : fits ty v' = true) (hge : n0 ≤ a) (hp : pc + 3 = pc')
    (k : ∀ T' h', OwnSt p l e R s m args below meth c Z own bytes maxL ret nm n0 km Q RR T' h' cells slots → Wr h h' a (Jvm.RoadKit.slotOf Z O n d) v' → OwnGo p e below (T'.setTop (mkF m pc' Ls S)) RR) : OwnGo p e below (T.setTop (mkF m pc Ls (v :: .ref a :: S))) RR := by
  subst hp
  obtain ⟨C, hh, hkm, locs, X0, N⟩ := X
  obtain ⟨hx, hby, hml, hZ, hown, hnm, hret, hlk, hR⟩ := id C
  obtain ⟨T', h', X', e', W', st⟩ := putFN X0 hx hZ hown w via hh F E (L.imp id fun q => ⟨q.1, q.2.1, hnm.trans q.2.2⟩) wi hty hn hf (g := mkF m pc Ls (v :: .ref a :: S)) rfl rfl (hb hby hd)
  exact own_step (k T' h' ⟨C, e', Nat.le_trans hkm (Nat.le_of_eq W'.size.symm), _, X', Fr.snoc X' N hge⟩ W') st
/-! from the case's words to facts -/
theorem own_fldL {st : State} {as' : Array Value} {t : Term} {C n d : String} {x : Addr} {z : Int64} (ht : t.eval as' st none [] st = some (.ref x)) (h : (Cond.eq (.field t C n d) (.long z)).value as' st none st [] = some true) : Fld st st.heap x C n d (.long z) := by
  obtain ⟨a, b, e1, e2, k1, k2⟩ := cmp_v (Or.inl h)
  cases (long_at z).symm.trans e2
  obtain ⟨w, rfl⟩ := k2
  have q := gotT (eq_L e1 e2) h
  subst q
  exact Fld.start ((fld_at ht).symm.trans e1)
theorem own_fldI {st : State} {as' : Array Value} {t : Term} {C n d : String} {x : Addr} {z : Int32} (ht : t.eval as' st none [] st = some (.ref x)) (h : (Cond.eq (.field t C n d) (.int z)).value as' st none st [] = some true) : Fld st st.heap x C n d (.int z) := by
  obtain ⟨a, b, e1, e2, k1, k2⟩ := cmp_v (Or.inl h)
  cases (Term.int_eval z).symm.trans e2
  obtain ⟨w, rfl⟩ := k2
  have q : w = z := by simpa [Cond.value, e1, e2] using h
  subst q
  exact Fld.start ((fld_at ht).symm.trans e1)
/-! calls by contract -/
theorem own_callC {index : Nat} {y : MethodName} {bytes' : ByteArray} {maxL' : Nat} {rm : Room} {a : Addr} {argsL : List Value} {Q' : Option Value → Heap → Prop} {ps : List FieldType} {W : Nat}
    (X : OwnSt p l e R s m args below meth c Z own bytes maxL ret nm n0 km Q RR T h cells slots) (hd : decode bytes pc = .ok (.invokespecial index, 3)) (hy : y.name = "<init>" ∧ y.cls ≠ "java/lang/invoke/MethodHandle" ∧ y.cls ≠ "java/lang/invoke/VarHandle")
    (w1 : (Cond.methodLink own index y).before a0 Z = true) (w2 : (Cond.instanceMethod y).before a0 Z = true) (w3 : (Cond.code y bytes' maxL' none).before a0 Z = true) (w4 : (Cond.initialized y.cls).before a0 Z = true)
    (M : OwnMet l Z y bytes' maxL' none rm (.ref a :: argsL).toArray h n0 Q') (hpd : parseMethodDescriptor y.desc = some ⟨ps, none⟩) (hlen : argsL.length = ps.length) {st : List Value} (hst : st = argsL.reverse ++ .ref a :: S) (hp : pc + 3 = pc') (hsz : Ls.size = maxL)
    (hW : 0 + (S.map fun v => v.category).sum ≤ W) (hf : rm.frames + 1 ≤ R.frames) (hlo : W + (maxL' + 11) + rm.locals ≤ R.locals) (hc : cells + rm.cells ≤ R.cells) (hl : slots + rm.slots ≤ R.slots)
    (k : ∀ T' h' v, OwnSt p l e R s m args below meth c Z own bytes maxL ret nm n0 km Q RR T' h' (cells + rm.cells) (slots + rm.slots) → Q' v h' → OwnGo p e below (T'.setTop (mkF m pc' Ls (v.toList ++ S))) RR) : OwnGo p e below (T.setTop (mkF m pc Ls st)) RR := by
  subst hp hst
  obtain ⟨C, hh, hkm, locs, X0, N⟩ := X
  obtain ⟨hx, hby, hml, hZ, hown, hnm, hret, hlk, hR⟩ := id C
  obtain ⟨v, _, ⟨T', L', c', s'⟩, -, X', ⟨Lc, hQ, e1, e2, e3⟩, st⟩ := X0.specialBack hx hy.1 hown (mvT hZ w1) (mvT hZ w2) (mvT hZ w3) hy.2 (backOf (W := W) (Q := fun v h' L => (Q' v h' ∧ h.size ≤ h'.size) ∧ Fr n0 L) (M []) hZ w3 w4 hf hlo) (g := mkF m pc Ls (argsL.reverse ++ .ref a :: S)) rfl (hsz.trans hml.symm) (Steps.refl _) (a := a) (argsL := argsL) (rest := S) (lenOf hpd hlen) rfl hW (hb hby hd) (fun _ _ => ⟨rfl, hh, hc, hl⟩)
  dsimp only [Pt.U, Pt.locs, Pt.cells, Pt.slots] at X' e1 e2 e3 st hQ
  subst e1 e2 e3
  exact own_step (k T' _ v ⟨C, rfl, Nat.le_trans hkm hQ.1.2, _, X', Fr.app N hQ.2⟩ hQ.1.1) fun t q => st.trans q
theorem own_callV {index : Nat} {y : MethodName} {K : String} {bytes' : ByteArray} {maxL' : Nat} {ret' : Option FieldType} {rm : Room} {a : Addr} {argsL : List Value} {Q' : Option Value → Heap → Prop} {ps : List FieldType} {W : Nat}
    (X : OwnSt p l e R s m args below meth c Z own bytes maxL ret nm n0 km Q RR T h cells slots) (hd : decode bytes pc = .ok (.invokevirtual index, 3)) (hy : y.cls ≠ "java/lang/invoke/MethodHandle" ∧ y.cls ≠ "java/lang/invoke/VarHandle")
    (w1 : (Cond.methodLink own index y).before a0 Z = true) (w2 : (Cond.declares y).before a0 Z = true) (w3 : (Cond.selects K y y).before a0 Z = true) (w4 : (Cond.instanceMethod y).before a0 Z = true) (w5 : (Cond.code y bytes' maxL' ret').before a0 Z = true) (w6 : (Cond.initialized y.cls).before a0 Z = true) (E : Exa Z h a K)
    (M : OwnMet l Z y bytes' maxL' ret' rm (.ref a :: argsL).toArray h n0 Q') {rt : Option FieldType} (hpd : parseMethodDescriptor y.desc = some ⟨ps, rt⟩) (hlen : argsL.length = ps.length) {st : List Value} (hst : st = argsL.reverse ++ .ref a :: S) (hp : pc + 3 = pc') (hsz : Ls.size = maxL)
    (hW : 0 + (S.map fun v => v.category).sum ≤ W) (hf : rm.frames + 1 ≤ R.frames) (hlo : W + (maxL' + 11) + rm.locals ≤ R.locals) (hc : cells + rm.cells ≤ R.cells) (hl : slots + rm.slots ≤ R.slots)
    (k : ∀ T' h' v, OwnSt p l e R s m args below meth c Z own bytes maxL ret nm n0 km Q RR T' h' (cells + rm.cells) (slots + rm.slots) → Q' v h' → OwnGo p e below (T'.setTop (mkF m pc' Ls (v.toList ++ S))) RR) : OwnGo p e below (T.setTop (mkF m pc Ls st)) RR := by
  subst hp hst
  obtain ⟨C, hh, hkm, locs, X0, N⟩ := X
  obtain ⟨hx, hby, hml, hZ, hown, hnm, hret, hlk, hR⟩ := id C
  obtain ⟨cq, kq, qa, qb, qc⟩ := isOf hZ hh E
  obtain ⟨v, _, ⟨T', L', c', s'⟩, -, X', ⟨Lc, hQ, e1, e2, e3⟩, st⟩ := X0.virtualBack hx (y := y) (z := y) hown (mvT hZ w1) (mvT hZ w2) (notFace_of_selects (args := #[]) (mvT hZ w3)) (mvT hZ w3) (mvT hZ w4) hy (backOf (W := W) (Q := fun v h' L => (Q' v h' ∧ h.size ≤ h'.size) ∧ Fr n0 L) (M []) hZ w5 w6 hf hlo) qa qc (g := mkF m pc Ls (argsL.reverse ++ .ref a :: S)) rfl (hsz.trans hml.symm) (Steps.refl _) (argsL := argsL) (rest := S) (lenOf hpd hlen) rfl hW (hb hby hd) (fun _ _ => ⟨rfl, hh, hc, hl⟩)
  dsimp only [Pt.U, Pt.locs, Pt.cells, Pt.slots] at X' e1 e2 e3 st hQ
  subst e1 e2 e3
  exact own_step (k T' _ v ⟨C, rfl, Nat.le_trans hkm hQ.1.2, _, X', Fr.app N hQ.2⟩ hQ.1.1) fun t q => st.trans q
theorem own_callP {index kk : Nat} {y : MethodName} {K : String} {bytes' : ByteArray} {maxL' : Nat} {ret' : Option FieldType} {rm : Room} {a : Addr} {argsL : List Value} {Q' : Option Value → Heap → Prop} {ps : List FieldType} {W : Nat}
    (X : OwnSt p l e R s m args below meth c Z own bytes maxL ret nm n0 km Q RR T h cells slots) (hd : decode bytes pc = .ok (.invokevirtual index, 3)) (hy : y.cls ≠ "java/lang/invoke/MethodHandle" ∧ y.cls ≠ "java/lang/invoke/VarHandle")
    (w1 : (Cond.methodLink own index y).before a0 Z = true) (w2 : (Cond.privateMethod y).before a0 Z = true) (w3 : (Cond.instantiable y.cls kk).before a0 Z = true) (w4 : (Cond.instanceMethod y).before a0 Z = true) (w5 : (Cond.code y bytes' maxL' ret').before a0 Z = true) (w6 : (Cond.initialized y.cls).before a0 Z = true) (E : Exa Z h a K)
    (M : OwnMet l Z y bytes' maxL' ret' rm (.ref a :: argsL).toArray h n0 Q') {rt : Option FieldType} (hpd : parseMethodDescriptor y.desc = some ⟨ps, rt⟩) (hlen : argsL.length = ps.length) {st : List Value} (hst : st = argsL.reverse ++ .ref a :: S) (hp : pc + 3 = pc') (hsz : Ls.size = maxL)
    (hW : 0 + (S.map fun v => v.category).sum ≤ W) (hf : rm.frames + 1 ≤ R.frames) (hlo : W + (maxL' + 11) + rm.locals ≤ R.locals) (hc : cells + rm.cells ≤ R.cells) (hl : slots + rm.slots ≤ R.slots)
    (k : ∀ T' h' v, OwnSt p l e R s m args below meth c Z own bytes maxL ret nm n0 km Q RR T' h' (cells + rm.cells) (slots + rm.slots) → Q' v h' → OwnGo p e below (T'.setTop (mkF m pc' Ls (v.toList ++ S))) RR) : OwnGo p e below (T.setTop (mkF m pc Ls st)) RR := by
  subst hp hst
  obtain ⟨C, hh, hkm, locs, X0, N⟩ := X
  obtain ⟨hx, hby, hml, hZ, hown, hnm, hret, hlk, hR⟩ := id C
  obtain ⟨cl, q, q'⟩ := E.cell
  have hpriv : s.PrivateAt y := Cond.privateMethod_at (mvP hZ w2 (args := #[]))
  have wi : (Cond.instantiable y.cls kk).before args s = true := mvT hZ w3
  obtain ⟨c2, k2, i1, i2, i3, i4, -⟩ := Cond.instantiable_spec wi
  have i5 : k2.isInterface = false := by
    cases hq : k2.isInterface
    · rfl
    · rw [hq] at i4; cases i4
  have hsel : (Cond.selects y.cls y y).before args s = true := selects_self_of_private i1 i2 i5 hpriv (mvT hZ w4) hy
  obtain ⟨v, _, ⟨T', L', c', s'⟩, -, X', ⟨Lc, hQ, e1, e2, e3⟩, st⟩ := X0.privateBack hx (y := y) hown (mvT hZ w1) (mvT hZ w4) hsel hpriv (mvT hZ w5) hy (backOf (W := W) (Q := fun v h' L => (Q' v h' ∧ h.size ≤ h'.size) ∧ Fr n0 L) (M []) hZ w5 w6 hf hlo) (g := mkF m pc Ls (argsL.reverse ++ .ref a :: S)) rfl (hsz.trans hml.symm) (Steps.refl _) (a := a) (by rw [hh]; exact q) q' (argsL := argsL) (rest := S) (lenOf hpd hlen) rfl hW (hb hby hd) (fun _ _ => ⟨rfl, hh, hc, hl⟩)
  dsimp only [Pt.U, Pt.locs, Pt.cells, Pt.slots] at X' e1 e2 e3 st hQ
  subst e1 e2 e3
  exact own_step (k T' _ v ⟨C, rfl, Nat.le_trans hkm hQ.1.2, _, X', Fr.app N hQ.2⟩ hQ.1.1) fun t q => st.trans q
theorem own_callS {index : Nat} {y : MethodName} {bytes' : ByteArray} {maxL' : Nat} {ret' : Option FieldType} {rm : Room} {argsL : List Value} {Q' : Option Value → Heap → Prop} {ps : List FieldType} {W : Nat}
    (X : OwnSt p l e R s m args below meth c Z own bytes maxL ret nm n0 km Q RR T h cells slots) (hd : decode bytes pc = .ok (.invokestatic index, 3)) (hy : y.cls ≠ "java/lang/invoke/MethodHandle" ∧ y.cls ≠ "java/lang/invoke/VarHandle")
    (w1 : (Cond.methodLink own index y).before a0 Z = true) (w2 : (Cond.static y).before a0 Z = true) (w5 : (Cond.code y bytes' maxL' ret').before a0 Z = true) (w6 : (Cond.initialized y.cls).before a0 Z = true)
    (M : OwnMet l Z y bytes' maxL' ret' rm argsL.toArray h n0 Q') {rt : Option FieldType} (hpd : parseMethodDescriptor y.desc = some ⟨ps, rt⟩) (hlen : argsL.length = ps.length) {st : List Value} (hst : st = argsL.reverse ++ S) (hp : pc + 3 = pc') (hsz : Ls.size = maxL)
    (hW : 0 + (S.map fun v => v.category).sum ≤ W) (hf : rm.frames + 1 ≤ R.frames) (hlo : W + (maxL' + 11) + rm.locals ≤ R.locals) (hc : cells + rm.cells ≤ R.cells) (hl : slots + rm.slots ≤ R.slots)
    (k : ∀ T' h' v, OwnSt p l e R s m args below meth c Z own bytes maxL ret nm n0 km Q RR T' h' (cells + rm.cells) (slots + rm.slots) → Q' v h' → OwnGo p e below (T'.setTop (mkF m pc' Ls (v.toList ++ S))) RR) : OwnGo p e below (T.setTop (mkF m pc Ls st)) RR := by
  subst hp hst
  obtain ⟨C, hh, hkm, locs, X0, N⟩ := X
  obtain ⟨hx, hby, hml, hZ, hown, hnm, hret, hlk, hR⟩ := id C
  obtain ⟨v, _, ⟨T', L', c', s'⟩, -, X', ⟨Lc, hQ, e1, e2, e3⟩, st⟩ := Jvm.LawKit.callS X0 hx (y := y) hown (mvT hZ w1) (mvT hZ w2) (mvT hZ w6) (mvT hZ w5) hy (backOf (W := W) (Q := fun v h' L => (Q' v h' ∧ h.size ≤ h'.size) ∧ Fr n0 L) (M []) hZ w5 w6 hf hlo) (g := mkF m pc Ls (argsL.reverse ++ S)) rfl (hsz.trans hml.symm) (argsL := argsL) (rest := S) (lenOf hpd hlen) rfl hW (hb hby hd) (fun _ _ => ⟨rfl, hh, hc, hl⟩)
  dsimp only [Pt.U, Pt.locs, Pt.cells, Pt.slots] at X' e1 e2 e3 st hQ
  subst e1 e2 e3
  exact own_step (k T' _ v ⟨C, rfl, Nat.le_trans hkm hQ.1.2, _, X', Fr.app N hQ.2⟩ hQ.1.1) st
end OwnKit
/-! ## own kit, arrays: the whole list of what lies in them -/
section OwnArr
variable {p : Program} {l : Launch} {e : Env} {R : Room} {s : State} {m : MethodId} {args : Array Value} {below : List Frame} {meth : Method} {c : Code} {Z : State} {own : String} {bytes : ByteArray} {maxL : Nat} {ret : Option FieldType} {nm : String} {n0 km : Nat} {Q : Option Value → Heap → Prop} {RR : State → Outcome → Prop} {T : State} {h h' : Heap} {cells slots : Nat} {a0 : Array Value} {pc pc' : Nat} {Ls : Array Slot} {S : List Value} {a b : Addr} {ty : FieldType} {vs : List Value} {sl : Nat} {v : Value} {ws : List Addr}
def OwnAr (Z : State) (h : Heap) (a : Addr) (ty : FieldType) (vs : List Value) : Prop := ∃ c : Cell, Arr Z h a c ty ∧ c.slots = vs.toArray ∧ vs.length < 2 ^ 31
theorem OwnAr.lt (F : OwnAr Z h a ty vs) : a < h.size := F.elim fun _ q => q.1.lt
theorem OwnAr.ext (F : OwnAr Z h a ty vs) (E : Ext h h') : OwnAr Z h' a ty vs := by obtain ⟨c, A, r⟩ := F; exact ⟨c, A.ext E, r⟩
theorem OwnAr.other (F : OwnAr Z h b ty vs) (W : Wr h h' a sl v) (q : b ≠ a) : OwnAr Z h' b ty vs := by obtain ⟨c, A, r⟩ := F; exact ⟨c, A.other W q, r⟩
theorem OwnAr.keep (F : OwnAr Z h a ty vs) (K : Keep h h' ws) (q : a ∉ ws) : OwnAr Z h' a ty vs := by obtain ⟨c, A, r⟩ := F; exact ⟨c, ⟨K.2.1 a c A.1 q, A.2⟩, r⟩
theorem OwnAr.same (F : OwnAr Z h a ty vs) (W : Wr h h' a sl v) : OwnAr Z h' a ty (vs.set sl v) := by
  obtain ⟨c, A, r1, r2⟩ := F
  exact ⟨_, A.same W, by simp [Cell.setSlot, r1], by simpa using r2⟩
theorem OwnAr.in (F : OwnAr Z h a ty vs) {j : Int32} (h1 : ¬ j < 0) (h2 : j.toNatClampNeg < vs.length) {c : Cell} (r1 : c.slots = vs.toArray) : ¬ (j < 0 ∨ c.slots.size ≤ j.toNatClampNeg) := by
  rintro (q | q)
  · exact h1 q
  · rw [r1, List.size_toArray] at q; omega
theorem own_lt_of_get {i : Nat} {x : Value} (q : vs[i]? = some x) : i < vs.length := (List.getElem?_eq_some_iff.mp q).1
theorem own_getI {xs : List Int32} {i : Nat} (q : i < xs.length) : (xs.map Value.int)[i]? = some (.int (xs.getD i 0)) := by
  rw [List.getElem?_map, List.getElem?_eq_getElem q, List.getD_eq_getElem?_getD, List.getElem?_eq_getElem q]; rfl
theorem own_getJ {xs : List Int64} {i : Nat} (q : i < xs.length) : (xs.map Value.long)[i]? = some (.long (xs.getD i 0)) := by
  rw [List.getElem?_map, List.getElem?_eq_getElem q, List.getD_eq_getElem?_getD, List.getElem?_eq_getElem q]; rfl
theorem own_newarr {aty : ArrayType} {n : Int32} {cap : Nat} (X : OwnSt p l e R s m args below meth c Z own bytes maxL ret nm n0 km Q RR T h cells slots) (hd : decode bytes pc = .ok (.newarray aty, 2)) (w : (Cond.arrayClass (newarray.typeOf aty)).before a0 Z = true) (hp : pc + 2 = pc') (hn : ¬ n < 0) (hcap : n.toNatClampNeg ≤ cap) (hbig : cap * 8 ≤ 536870912) (hc : cells + 1 ≤ R.cells) (hl : slots + cap ≤ R.slots)
    (k : ∀ T' h' b, b = h.size → OwnSt p l e R s m args below meth c Z own bytes maxL ret nm n0 km Q RR T' h' (cells + 1) (slots + cap) → Ext h h' → OwnAr Z h' b (newarray.typeOf aty) (List.replicate n.toNatClampNeg (defaultValue (newarray.typeOf aty))) → OwnGo p e below (T'.setTop (mkF m pc' Ls (.ref b :: S))) RR) : OwnGo p e below (T.setTop (mkF m pc Ls (.int n :: S))) RR := by
  subst hp
  obtain ⟨C, hh, hkm, locs, X0, N⟩ := X
  obtain ⟨hx, hby, hml, hZ, hown, hnm, hret, hlk, hR⟩ := id C
  obtain ⟨T', h', cA, X', e', E', A', st⟩ := newP X0 hx hZ w hh (g := mkF m pc Ls (.int n :: S)) rfl (hb hby hd) rfl hn hcap hbig hc hl
  exact own_step (k T' h' _ rfl ⟨C, e', Nat.le_trans hkm E'.1, locs, X', N⟩ E' ⟨_, A', by simp [newA], by simp only [List.length_replicate]; omega⟩) st
theorem own_arraylength (X : OwnSt p l e R s m args below meth c Z own bytes maxL ret nm n0 km Q RR T h cells slots) (hd : decode bytes pc = .ok (.arraylength, 1)) (A : OwnAr Z h a ty vs) {n : Int32} (hn : vs.length.toInt32 = n) (hp : pc + 1 = pc') (k : OwnGo p e below (T.setTop (mkF m pc' Ls (.int n :: S))) RR) : OwnGo p e below (T.setTop (mkF m pc Ls (.ref a :: S))) RR := by
  subst hp hn
  obtain ⟨C, hh, hkm, locs, X0, N⟩ := id X
  obtain ⟨cl, A0, r1, r2⟩ := A
  refine own_step k fun t q => ?_
  refine X0.arraylength X.hx (by rw [hh]; exact A0.1) (State.isArrayOf_alike X.hZ.alike A0.2.1) (g := mkF m pc Ls (.ref a :: S)) rfl rfl (hb X.by' hd) _ ?_
  rw [r1, List.size_toArray]; exact q
theorem own_iaload {j : Int32} (X : OwnSt p l e R s m args below meth c Z own bytes maxL ret nm n0 km Q RR T h cells slots) (hd : decode bytes pc = .ok (.iaload, 1)) (A : OwnAr Z h a .int vs) (hj : ¬ j < 0) (hv : vs[j.toNatClampNeg]? = some v) (hp : pc + 1 = pc') (k : OwnGo p e below (T.setTop (mkF m pc' Ls (v :: S))) RR) : OwnGo p e below (T.setTop (mkF m pc Ls (.int j :: .ref a :: S))) RR := by
  subst hp
  obtain ⟨C, hh, hkm, locs, X0, N⟩ := id X
  obtain ⟨cl, A0, r1, r2⟩ := id A
  exact own_step k fun t q => X0.iaload X.hx (by rw [hh]; exact A0.1) (State.isArrayOf_alike X.hZ.alike A0.2.1) A0.2.2 (A.in hj (own_lt_of_get hv) r1) (by rw [r1, List.getElem?_toArray]; exact hv) (g := mkF m pc Ls (.int j :: .ref a :: S)) rfl rfl (hb X.by' hd) _ q
theorem own_laload {j : Int32} (X : OwnSt p l e R s m args below meth c Z own bytes maxL ret nm n0 km Q RR T h cells slots) (hd : decode bytes pc = .ok (.laload, 1)) (A : OwnAr Z h a .long vs) (hj : ¬ j < 0) (hv : vs[j.toNatClampNeg]? = some v) (hp : pc + 1 = pc') (k : OwnGo p e below (T.setTop (mkF m pc' Ls (v :: S))) RR) : OwnGo p e below (T.setTop (mkF m pc Ls (.int j :: .ref a :: S))) RR := by
  subst hp
  obtain ⟨C, hh, hkm, locs, X0, N⟩ := id X
  obtain ⟨cl, A0, r1, r2⟩ := id A
  exact own_step k fun t q => X0.laload X.hx (by rw [hh]; exact A0.1) (State.isArrayOf_alike X.hZ.alike A0.2.1) A0.2.2 (A.in hj (own_lt_of_get hv) r1) (by rw [r1, List.getElem?_toArray]; exact hv) (g := mkF m pc Ls (.int j :: .ref a :: S)) rfl rfl (hb X.by' hd) _ q
theorem own_caload {j : Int32} (X : OwnSt p l e R s m args below meth c Z own bytes maxL ret nm n0 km Q RR T h cells slots) (hd : decode bytes pc = .ok (.caload, 1)) (A : OwnAr Z h a .char vs) (hj : ¬ j < 0) (hv : vs[j.toNatClampNeg]? = some v) (hp : pc + 1 = pc') (k : OwnGo p e below (T.setTop (mkF m pc' Ls (v :: S))) RR) : OwnGo p e below (T.setTop (mkF m pc Ls (.int j :: .ref a :: S))) RR := by
  subst hp
  obtain ⟨C, hh, hkm, locs, X0, N⟩ := id X
  obtain ⟨cl, A0, r1, r2⟩ := id A
  exact own_step k fun t q => X0.caload X.hx (by rw [hh]; exact A0.1) (State.isArrayOf_alike X.hZ.alike A0.2.1) A0.2.2 (A.in hj (own_lt_of_get hv) r1) (by rw [r1, List.getElem?_toArray]; exact hv) (g := mkF m pc Ls (.int j :: .ref a :: S)) rfl rfl (hb X.by' hd) _ q
theorem own_baload {j : Int32} (X : OwnSt p l e R s m args below meth c Z own bytes maxL ret nm n0 km Q RR T h cells slots) (hd : decode bytes pc = .ok (.baload, 1)) (A : OwnAr Z h a .byte vs) (hj : ¬ j < 0) (hv : vs[j.toNatClampNeg]? = some v) (hp : pc + 1 = pc') (k : OwnGo p e below (T.setTop (mkF m pc' Ls (v :: S))) RR) : OwnGo p e below (T.setTop (mkF m pc Ls (.int j :: .ref a :: S))) RR := by
  subst hp
  obtain ⟨C, hh, hkm, locs, X0, N⟩ := id X
  obtain ⟨cl, A0, r1, r2⟩ := id A
  exact own_step k fun t q => X0.baloadBytes X.hx (by rw [hh]; exact A0.1) (State.isArrayOf_alike X.hZ.alike A0.2.1) A0.2.2 (A.in hj (own_lt_of_get hv) r1) (by rw [r1, List.getElem?_toArray]; exact hv) (g := mkF m pc Ls (.int j :: .ref a :: S)) rfl rfl (hb X.by' hd) _ q
theorem own_aaload {j : Int32} (X : OwnSt p l e R s m args below meth c Z own bytes maxL ret nm n0 km Q RR T h cells slots) (hd : decode bytes pc = .ok (.aaload, 1)) (A : OwnAr Z h a ty vs) (hty : ty.isReference = true) (hj : ¬ j < 0) (hv : vs[j.toNatClampNeg]? = some v) (hp : pc + 1 = pc') (k : OwnGo p e below (T.setTop (mkF m pc' Ls (v :: S))) RR) : OwnGo p e below (T.setTop (mkF m pc Ls (.int j :: .ref a :: S))) RR := by
  subst hp
  obtain ⟨C, hh, hkm, locs, X0, N⟩ := id X
  obtain ⟨cl, A0, r1, r2⟩ := id A
  exact own_step k fun t q => X0.aaload X.hx (by rw [hh]; exact A0.1) (State.isArrayOf_alike X.hZ.alike A0.2.1) hty A0.2.2 (A.in hj (own_lt_of_get hv) r1) (by rw [r1, List.getElem?_toArray]; exact hv) (g := mkF m pc Ls (.int j :: .ref a :: S)) rfl rfl (hb X.by' hd) _ q
theorem own_iastore {j : Int32} {x : Int32} (X : OwnSt p l e R s m args below meth c Z own bytes maxL ret nm n0 km Q RR T h cells slots) (hd : decode bytes pc = .ok (.iastore, 1)) (A : OwnAr Z h a .int vs) (hj : ¬ j < 0) (hj2 : j.toNatClampNeg < vs.length) (hge : n0 ≤ a) (hp : pc + 1 = pc') (k : ∀ T' h', OwnSt p l e R s m args below meth c Z own bytes maxL ret nm n0 km Q RR T' h' cells slots → Wr h h' a j.toNatClampNeg (.int x) → OwnAr Z h' a .int (vs.set j.toNatClampNeg (.int x)) → OwnGo p e below (T'.setTop (mkF m pc' Ls S)) RR) : OwnGo p e below (T.setTop (mkF m pc Ls (.int x :: .int j :: .ref a :: S))) RR := by
  subst hp
  obtain ⟨C, hh, hkm, locs, X0, N⟩ := id X
  obtain ⟨cl, A0, r1, r2⟩ := id A
  obtain ⟨T', h', X', e', W', st⟩ := stI X0 X.hx X.hZ hh A0 (A.in hj hj2 r1) (g := mkF m pc Ls (.int x :: .int j :: .ref a :: S)) rfl rfl (hb X.by' hd)
  exact own_step (k T' h' ⟨C, e', Nat.le_trans hkm (Nat.le_of_eq W'.size.symm), _, X', Fr.snoc X' N hge⟩ W' (A.same W')) st
theorem own_lastore {j : Int32} {x : Int64} (X : OwnSt p l e R s m args below meth c Z own bytes maxL ret nm n0 km Q RR T h cells slots) (hd : decode bytes pc = .ok (.lastore, 1)) (A : OwnAr Z h a .long vs) (hj : ¬ j < 0) (hj2 : j.toNatClampNeg < vs.length) (hge : n0 ≤ a) (hp : pc + 1 = pc') (k : ∀ T' h', OwnSt p l e R s m args below meth c Z own bytes maxL ret nm n0 km Q RR T' h' cells slots → Wr h h' a j.toNatClampNeg (.long x) → OwnAr Z h' a .long (vs.set j.toNatClampNeg (.long x)) → OwnGo p e below (T'.setTop (mkF m pc' Ls S)) RR) : OwnGo p e below (T.setTop (mkF m pc Ls (.long x :: .int j :: .ref a :: S))) RR := by
  subst hp
  obtain ⟨C, hh, hkm, locs, X0, N⟩ := id X
  obtain ⟨cl, A0, r1, r2⟩ := id A
  obtain ⟨T', h', X', e', W', st⟩ := stJ X0 X.hx X.hZ hh A0 (A.in hj hj2 r1) (g := mkF m pc Ls (.long x :: .int j :: .ref a :: S)) rfl rfl (hb X.by' hd)
  exact own_step (k T' h' ⟨C, e', Nat.le_trans hkm (Nat.le_of_eq W'.size.symm), _, X', Fr.snoc X' N hge⟩ W' (A.same W')) st
theorem own_castore {j : Int32} {x : Int32} (X : OwnSt p l e R s m args below meth c Z own bytes maxL ret nm n0 km Q RR T h cells slots) (hd : decode bytes pc = .ok (.castore, 1)) (A : OwnAr Z h a .char vs) (hj : ¬ j < 0) (hj2 : j.toNatClampNeg < vs.length) (hge : n0 ≤ a) (hp : pc + 1 = pc') (k : ∀ T' h', OwnSt p l e R s m args below meth c Z own bytes maxL ret nm n0 km Q RR T' h' cells slots → Wr h h' a j.toNatClampNeg (.int (x.toUInt32.toUInt16.toUInt32.toInt32)) → OwnAr Z h' a .char (vs.set j.toNatClampNeg (.int (x.toUInt32.toUInt16.toUInt32.toInt32))) → OwnGo p e below (T'.setTop (mkF m pc' Ls S)) RR) : OwnGo p e below (T.setTop (mkF m pc Ls (.int x :: .int j :: .ref a :: S))) RR := by
  subst hp
  obtain ⟨C, hh, hkm, locs, X0, N⟩ := id X
  obtain ⟨cl, A0, r1, r2⟩ := id A
  obtain ⟨T', h', X', e', W', st⟩ := stC X0 X.hx X.hZ hh A0 (A.in hj hj2 r1) (g := mkF m pc Ls (.int x :: .int j :: .ref a :: S)) rfl rfl (hb X.by' hd)
  exact own_step (k T' h' ⟨C, e', Nat.le_trans hkm (Nat.le_of_eq W'.size.symm), _, X', Fr.snoc X' N hge⟩ W' (A.same W')) st
end OwnArr
/-! ## own kit: arrays of references, a switch, a call through a subclass's name -/
section OwnRef
variable {p : Program} {l : Launch} {e : Env} {R : Room} {s : State} {m : MethodId} {args : Array Value} {below : List Frame} {meth : Method} {c : Code} {Z : State} {own : String} {bytes : ByteArray} {maxL : Nat} {ret : Option FieldType} {nm : String} {n0 km : Nat} {Q : Option Value → Heap → Prop} {RR : State → Outcome → Prop} {T : State} {h h' : Heap} {cells slots : Nat} {a0 : Array Value} {pc pc' : Nat} {Ls : Array Slot} {S : List Value} {a b : Addr} {C : String} {vs : List Value} {sl : Nat} {v : Value} {ws : List Addr}
def OwnArR (Z : State) (h : Heap) (a : Addr) (C : String) (vs : List Value) : Prop := ∃ c : Cell, Arr Z h a c (.object C) ∧ c.slots = vs.toArray ∧ vs.length < 2 ^ 31 ∧ Ovr Z c.cls C
theorem OwnArR.lt (F : OwnArR Z h a C vs) : a < h.size := F.elim fun _ q => q.1.lt
theorem OwnArR.ar (F : OwnArR Z h a C vs) : OwnAr Z h a (.object C) vs := F.elim fun c q => ⟨c, q.1, q.2.1, q.2.2.1⟩
theorem OwnArR.ext (F : OwnArR Z h a C vs) (E : Ext h h') : OwnArR Z h' a C vs := by obtain ⟨c, A, r⟩ := F; exact ⟨c, A.ext E, r⟩
theorem OwnArR.other (F : OwnArR Z h b C vs) (W : Wr h h' a sl v) (q : b ≠ a) : OwnArR Z h' b C vs := by obtain ⟨c, A, r⟩ := F; exact ⟨c, A.other W q, r⟩
theorem OwnArR.keep (F : OwnArR Z h a C vs) (K : Keep h h' ws) (q : a ∉ ws) : OwnArR Z h' a C vs := by obtain ⟨c, A, r⟩ := F; exact ⟨c, ⟨K.2.1 a c A.1 q, A.2⟩, r⟩
theorem OwnArR.same (F : OwnArR Z h a C vs) (W : Wr h h' a sl v) : OwnArR Z h' a C (vs.set sl v) := by
  obtain ⟨c, A, r1, r2, r3⟩ := F
  exact ⟨_, A.same W, by simp [Cell.setSlot, r1], by simpa using r2, r3⟩
theorem own_anew {index : Nat} {n : Int32} {cap : Nat} (X : OwnSt p l e R s m args below meth c Z own bytes maxL ret nm n0 km Q RR T h cells slots) (hd : decode bytes pc = .ok (.anewarray index, 3)) (w1 : (Cond.classLink own index C).before a0 Z = true) (w2 : (Cond.arrayOver (.object C)).before a0 Z = true) (hp : pc + 3 = pc') (hn : ¬ n < 0) (hcap : n.toNatClampNeg ≤ cap) (hbig : cap * 8 ≤ 536870912) (hc : cells + 1 ≤ R.cells) (hl : slots + cap ≤ R.slots)
    (k : ∀ T' h' b, b = h.size → OwnSt p l e R s m args below meth c Z own bytes maxL ret nm n0 km Q RR T' h' (cells + 1) (slots + cap) → Ext h h' → OwnArR Z h' b C (List.replicate n.toNatClampNeg .null) → OwnGo p e below (T'.setTop (mkF m pc' Ls (.ref b :: S))) RR) : OwnGo p e below (T.setTop (mkF m pc Ls (.int n :: S))) RR := by
  subst hp
  obtain ⟨C0, hh, hkm, locs, X0, N⟩ := X
  obtain ⟨hx, hby, hml, hZ, hown, hnm, hret, hlk, hR⟩ := id C0
  obtain ⟨T', h', cA, X', e', E', A', O', st⟩ := newR X0 hx hZ hown w1 w2 hh (g := mkF m pc Ls (.int n :: S)) rfl (hb hby hd) rfl hn hcap hbig hc hl
  exact own_step (k T' h' _ rfl ⟨C0, e', Nat.le_trans hkm E'.1, locs, X', N⟩ E' ⟨_, A', by simp [newA, defaultValue], by simp only [List.length_replicate]; omega, O'⟩) st
theorem own_aastore {j : Int32} {y : Addr} (X : OwnSt p l e R s m args below meth c Z own bytes maxL ret nm n0 km Q RR T h cells slots) (hd : decode bytes pc = .ok (.aastore, 1)) (A : OwnArR Z h a C vs) (I : Ins Z h y C true) (hj : ¬ j < 0) (hj2 : j.toNatClampNeg < vs.length) (hge : n0 ≤ a) (hp : pc + 1 = pc')
    (k : ∀ T' h', OwnSt p l e R s m args below meth c Z own bytes maxL ret nm n0 km Q RR T' h' cells slots → Wr h h' a j.toNatClampNeg (.ref y) → OwnArR Z h' a C (vs.set j.toNatClampNeg (.ref y)) → OwnGo p e below (T'.setTop (mkF m pc' Ls S)) RR) : OwnGo p e below (T.setTop (mkF m pc Ls (.ref y :: .int j :: .ref a :: S))) RR := by
  subst hp
  obtain ⟨C0, hh, hkm, locs, X0, N⟩ := id X
  obtain ⟨cl, A0, r1, r2, r3⟩ := id A
  obtain ⟨T', h', X', e', W', st⟩ := stR X0 X.hx X.hZ hh A0 (A.ar.in hj hj2 r1) rfl (Sto.of A0 r3 I) (g := mkF m pc Ls (.ref y :: .int j :: .ref a :: S)) rfl rfl (hb X.by' hd)
  exact own_step (k T' h' ⟨C0, e', Nat.le_trans hkm (Nat.le_of_eq W'.size.symm), _, X', Fr.snoc X' N hge⟩ W' (A.same W')) st
theorem own_tsw {dflt low high : Int} {offs : Array Int} {len : Nat} {o : Int} {i : Int32} (X : OwnSt p l e R s m args below meth c Z own bytes maxL ret nm n0 km Q RR T h cells slots) (hd : decode bytes pc = .ok (.tableswitch dflt low high offs, len)) (hin : ¬ (i.toInt < low ∨ i.toInt > high)) (hoff : offs[(i.toInt - low).toNat]? = some o) (hp : ((pc : Int) + o).toNat = pc') (ho : 0 ≤ (pc : Int) + o) (k : OwnGo p e below (T.setTop (mkF m pc' Ls S)) RR) : OwnGo p e below (T.setTop (mkF m pc Ls (.int i :: S))) RR :=
  own_step k fun t k => XS.tswIn X.here X.hx rfl (pc0 := pc) rfl (hb X.by' hd) rfl hin hoff ho hp k
theorem own_callU {index : Nat} {y z : MethodName} {K owner : String} {bytes' : ByteArray} {maxL' : Nat} {ret' : Option FieldType} {rm : Room} {a : Addr} {argsL : List Value} {Q' : Option Value → Heap → Prop} {ps : List FieldType} {W : Nat}
    (X : OwnSt p l e R s m args below meth c Z own bytes maxL ret nm n0 km Q RR T h cells slots) (hd : decode bytes pc = .ok (.invokevirtual index, 3)) (hy : owner ≠ "java/lang/invoke/MethodHandle" ∧ owner ≠ "java/lang/invoke/VarHandle")
    (w1 : (Cond.methodLink own index y).before a0 Z = true) (w2 : (Cond.sameMethod y.cls owner y.name y.desc).before a0 Z = true) (w2' : (Cond.declares ⟨owner, y.name, y.desc⟩).before a0 Z = true) (w3 : (Cond.selects K y z).before a0 Z = true) (w4 : (Cond.instanceMethod z).before a0 Z = true) (w5 : (Cond.code z bytes' maxL' ret').before a0 Z = true) (w6 : (Cond.initialized z.cls).before a0 Z = true) (E : Exa Z h a K)
    (M : OwnMet l Z z bytes' maxL' ret' rm (.ref a :: argsL).toArray h n0 Q') {rt : Option FieldType} (hpd : parseMethodDescriptor y.desc = some ⟨ps, rt⟩) (hlen : argsL.length = ps.length) {st : List Value} (hst : st = argsL.reverse ++ .ref a :: S) (hp : pc + 3 = pc') (hsz : Ls.size = maxL)
    (hW : 0 + (S.map fun v => v.category).sum ≤ W) (hf : rm.frames + 1 ≤ R.frames) (hlo : W + (maxL' + 11) + rm.locals ≤ R.locals) (hc : cells + rm.cells ≤ R.cells) (hl : slots + rm.slots ≤ R.slots)
    (k : ∀ T' h' v, OwnSt p l e R s m args below meth c Z own bytes maxL ret nm n0 km Q RR T' h' (cells + rm.cells) (slots + rm.slots) → Q' v h' → OwnGo p e below (T'.setTop (mkF m pc' Ls (v.toList ++ S))) RR) : OwnGo p e below (T.setTop (mkF m pc Ls st)) RR := by
  subst hp hst
  obtain ⟨C0, hh, hkm, locs, X0, N⟩ := X
  obtain ⟨hx, hby, hml, hZ, hown, hnm, hret, hlk, hR⟩ := id C0
  obtain ⟨cq, kq, qa, qb, qc⟩ := isOf hZ hh E
  obtain ⟨v, _, ⟨T', L', c', s'⟩, -, X', ⟨Lc, hQ, e1, e2, e3⟩, st⟩ := X0.virtualBackUp hx (x := y) (y := z) hown (mvT hZ w1) (mvT hZ w2) (mvT hZ w2') hy (mvT hZ w3) (mvT hZ w4) (backOf (W := W) (Q := fun v h' L => (Q' v h' ∧ h.size ≤ h'.size) ∧ Fr n0 L) (M []) hZ w5 w6 hf hlo) qa qc (g := mkF m pc Ls (argsL.reverse ++ .ref a :: S)) rfl (hsz.trans hml.symm) (Steps.refl _) (argsL := argsL) (rest := S) (lenOf hpd hlen) rfl hW (hb hby hd) (fun _ _ => ⟨rfl, hh, hc, hl⟩)
  dsimp only [Pt.U, Pt.locs, Pt.cells, Pt.slots] at X' e1 e2 e3 st hQ
  subst e1 e2 e3
  exact own_step (k T' _ v ⟨C0, rfl, Nat.le_trans hkm hQ.1.2, _, X', Fr.app N hQ.2⟩ hQ.1.1) fun t q => st.trans q
end OwnRef
theorem own_nn (x : Int32) : (x.toUInt32.toUInt16.toUInt32.toInt32).toUInt32.toUInt16.toUInt32.toInt32 = x.toUInt32.toUInt16.toUInt32.toInt32 := by
  have h : ∀ u : UInt16, u.toUInt32.toInt32.toUInt32.toUInt16 = u := fun u => by simp
  rw [h]
theorem own_and (x m : Int32) (hm : 0 ≤ m.toInt) : 0 ≤ (x &&& m).toInt ∧ (x &&& m).toInt ≤ m.toInt := by
  have e1 : m.toInt = (m.toBitVec.toNat : Int) := by
    show m.toBitVec.toInt = _
    have q : 0 ≤ m.toBitVec.toInt := hm
    have := m.toBitVec.isLt
    rw [BitVec.toInt_eq_toNat_cond] at q ⊢
    split at q <;> split <;> omega
  have h1 : (x &&& m).toBitVec.toNat ≤ m.toBitVec.toNat := by
    rw [Int32.toBitVec_and, BitVec.toNat_and]; exact Nat.and_le_right
  have h3 : m.toInt < 2147483648 := m.toInt_lt
  have e2 : (x &&& m).toInt = ((x &&& m).toBitVec.toNat : Int) := by
    show (x &&& m).toBitVec.toInt = _
    rw [BitVec.toInt_eq_toNat_cond]
    split <;> omega
  omega
theorem own_or32 (c : BitVec 32) (k : BitVec 32) (hk : k.getLsbD 5 = true) : c ||| 32#32 = k ↔ c = k ∨ c = k ^^^ 32#32 := by
  have t : (32#32 : BitVec 32) = BitVec.twoPow 32 5 := by decide
  constructor
  · intro h
    by_cases b : c.getLsbD 5
    · left; rw [← h]; apply BitVec.eq_of_getLsbD_eq; intro i hi
      rw [BitVec.getLsbD_or, t, BitVec.getLsbD_twoPow]
      by_cases q : 5 = i
      · subst q; simp [b]
      · simp [q]
    · right; rw [← h]; apply BitVec.eq_of_getLsbD_eq; intro i hi
      rw [BitVec.getLsbD_xor, BitVec.getLsbD_or, t, BitVec.getLsbD_twoPow]
      by_cases q : 5 = i
      · subst q; rw [Bool.not_eq_true] at b; rw [b]; rfl
      · simp [q]
  · rintro (rfl | rfl) <;> (apply BitVec.eq_of_getLsbD_eq; intro i hi; rw [BitVec.getLsbD_or]; try rw [BitVec.getLsbD_xor]) <;> rw [t, BitVec.getLsbD_twoPow]
    · by_cases q : 5 = i
      · subst q; simp [hk]
      · simp [q]
    · by_cases q : 5 = i
      · subst q; simp [hk]
      · simp [q]
theorem own_or (c k k' : Int32) (hk : k.toBitVec.getLsbD 5 = true) (hk' : k.toBitVec ^^^ 32#32 = k'.toBitVec) : c ||| (32 : Int32) = k ↔ c = k ∨ c = k' := by
  rw [← Int32.toBitVec_inj, Int32.toBitVec_or, ← Int32.toBitVec_inj (a := c) (b := k), ← Int32.toBitVec_inj (a := c) (b := k'), ← hk']
  exact own_or32 _ _ hk
theorem own_st (c : Int32) : (if c = (84 : Int32) then (1 : Int32) else (if c = (116 : Int32) then (1 : Int32) else (0 : Int32))) = (if c ||| (32 : Int32) = (116 : Int32) then (1 : Int32) else (0 : Int32)) := by
  simp only [own_or c 116 84 (by decide) (by decide)]
  by_cases h : c = 84 <;> by_cases h2 : c = 116 <;> simp [h, h2]
theorem own_p3 (x : Int32) : ((x &&& (65535 : Int32)) % (3 : Int32)) = 0 ∨ ((x &&& (65535 : Int32)) % (3 : Int32)) = 1 ∨ ((x &&& (65535 : Int32)) % (3 : Int32)) = 2 := by
  have h1 := own_and x 65535 (by decide)
  have h2 := (Jvm.RoadKit.c_irem (x &&& (65535 : Int32)) 3 3 rfl).1 h1.1
  have h3 : ((x &&& (65535 : Int32)) % (3 : Int32)).toInt = 0 ∨ ((x &&& (65535 : Int32)) % (3 : Int32)).toInt = 1 ∨ ((x &&& (65535 : Int32)) % (3 : Int32)).toInt = 2 := by omega
  simp only [← Int32.toInt_inj]; exact h3
theorem own_p1 (x : Int32) : (x &&& (1 : Int32)) = 0 ∨ (x &&& (1 : Int32)) = 1 ∨ (x &&& (1 : Int32)) = 2 := by
  have h1 := own_and x 1 (by decide)
  have e : (1 : Int32).toInt = 1 := rfl
  have h3 : (x &&& (1 : Int32)).toInt = 0 ∨ (x &&& (1 : Int32)).toInt = 1 ∨ (x &&& (1 : Int32)).toInt = 2 := by omega
  simp only [← Int32.toInt_inj]; exact h3
theorem own_p5 (x : Int32) : ((x &&& (7 : Int32)) % (5 : Int32)) = 0 ∨ ((x &&& (7 : Int32)) % (5 : Int32)) = 1 ∨ ((x &&& (7 : Int32)) % (5 : Int32)) = 2 ∨ ((x &&& (7 : Int32)) % (5 : Int32)) = 3 ∨ ((x &&& (7 : Int32)) % (5 : Int32)) = 4 := by
  have h1 := own_and x 7 (by decide)
  have h2 := (Jvm.RoadKit.c_irem (x &&& (7 : Int32)) 5 5 rfl).1 h1.1
  have h3 : ((x &&& (7 : Int32)) % (5 : Int32)).toInt = 0 ∨ ((x &&& (7 : Int32)) % (5 : Int32)).toInt = 1 ∨ ((x &&& (7 : Int32)) % (5 : Int32)).toInt = 2 ∨ ((x &&& (7 : Int32)) % (5 : Int32)).toInt = 3 ∨ ((x &&& (7 : Int32)) % (5 : Int32)).toInt = 4 := by omega
  simp only [← Int32.toInt_inj]; exact h3
theorem own_d2_0 : decode jdk_37_method_2_code 0 = .ok (.aload_n 0, 1) := by decide +kernel
theorem own_d2_1 : decode jdk_37_method_2_code 1 = .ok (.getfield 7, 3) := by decide +kernel
theorem own_d2_4 : decode jdk_37_method_2_code 4 = .ok (.ireturn, 1) := by decide +kernel
theorem own_ef2 (m : MethodId) (x0 : Addr) : entryFrame m #[(.ref x0)] 1 = mkF m 0 #[.val (.ref x0)] [] := by first | (simp [entryFrame, mkF, argsToLocals, Value.category]; done) | rfl
theorem own_pn2 : plainFor (⟨"java/lang/Enum", "ordinal", "()I"⟩ : MethodName) = true := by first | exact plainFor_of_name (by first | (simp [plainName, overriddenIn]; done) | decide +kernel) | exact Jvm.Free.JP.mathPlain rfl (by decide +kernel)
set_option maxRecDepth 65536 in
set_option maxHeartbeats 40000000 in
theorem own_rm2 (l : Launch) (Z : State) (a0 : Array Value) (hw : ∀ d ∈ tables_1, d.before a0 Z = true) (a1 : Addr) (w1 : Int32) (h0 : Heap) (n0 : Nat) (Z0 : n0 ≤ h0.size) (F_ordinal_a1 : Fld Z h0 a1 "java/lang/Enum" "ordinal" "I" (.int w1)) :
    OwnMet l Z (⟨"java/lang/Enum", "ordinal", "()I"⟩ : MethodName) jdk_37_method_2_code 1 (some .int) ({ frames := 0, cells := 0, slots := 0, locals := 0 } : Room) #[(.ref a1)] h0 n0 (fun v h => v = some (.int w1) ∧ h0 = h) := by
  refine own_body own_pn2 ?_
  intro p e s m below meth c s₁ RR X0
  refine own_enter (own_ef2 m a1) ?_
  refine own_aloadN X0 own_d2_0 (pc' := 1) rfl rfl rfl ?_
  refine own_getF X0 own_d2_1 (hw _ (List.mem_of_getElem? (i := 42) rfl)) Via.refl F_ordinal_a1 (pc' := 4) rfl ?_
  intro T1 X1
  exact own_retI X1 own_d2_4 ⟨rfl, rfl⟩ (by decide) (by decide)
theorem own_d5_0 : decode prog_32_method_5_code 0 = .ok (.aload_n 0, 1) := by decide +kernel
theorem own_d5_1 : decode prog_32_method_5_code 1 = .ok (.getstatic 7, 3) := by decide +kernel
theorem own_d5_4 : decode prog_32_method_5_code 4 = .ok (.if_acmp .eq 10, 3) := by decide +kernel
theorem own_d5_7 : decode prog_32_method_5_code 7 = .ok (.aload_n 0, 1) := by decide +kernel
theorem own_d5_8 : decode prog_32_method_5_code 8 = .ok (.getstatic 13, 3) := by decide +kernel
theorem own_d5_11 : decode prog_32_method_5_code 11 = .ok (.if_acmp .ne 7, 3) := by decide +kernel
theorem own_d5_14 : decode prog_32_method_5_code 14 = .ok (.iconst 1, 1) := by decide +kernel
theorem own_d5_15 : decode prog_32_method_5_code 15 = .ok (.goto 4, 3) := by decide +kernel
theorem own_d5_18 : decode prog_32_method_5_code 18 = .ok (.iconst 0, 1) := by decide +kernel
theorem own_d5_19 : decode prog_32_method_5_code 19 = .ok (.ireturn, 1) := by decide +kernel
theorem own_ef5_r1 (m : MethodId) (x0 : Addr) : entryFrame m #[(.ref x0)] 1 = mkF m 0 #[.val (.ref x0)] [] := by first | (simp [entryFrame, mkF, argsToLocals, Value.category]; done) | rfl
theorem own_pn5_r1 : plainFor (⟨"com/example/imhotep/imhotep/core/TaskState", "isHeld", "()Z"⟩ : MethodName) = true := by first | exact plainFor_of_name (by first | (simp [plainName, overriddenIn]; done) | decide +kernel) | exact Jvm.Free.JP.mathPlain rfl (by decide +kernel)
set_option maxRecDepth 65536 in
set_option maxHeartbeats 40000000 in
theorem own_rm5_r1 (l : Launch) (Z : State) (a0 : Array Value) (hw : ∀ d ∈ tables_1, d.before a0 Z = true) (r1 : Addr) (r3 : Addr) (r0 : Addr) (r5 : Addr) (r4 : Addr) (h0 : Heap) (n0 : Nat) (Z0 : n0 ≤ h0.size) (S_RUNNING : Sta Z h0 "com/example/imhotep/imhotep/core/TaskState" "RUNNING" "Lcom/example/imhotep/imhotep/core/TaskState;" (.ref r1)) (S_REVIEW : Sta Z h0 "com/example/imhotep/imhotep/core/TaskState" "REVIEW" "Lcom/example/imhotep/imhotep/core/TaskState;" (.ref r3)) (S_PENDING : Sta Z h0 "com/example/imhotep/imhotep/core/TaskState" "PENDING" "Lcom/example/imhotep/imhotep/core/TaskState;" (.ref r0)) (S_FAILED : Sta Z h0 "com/example/imhotep/imhotep/core/TaskState" "FAILED" "Lcom/example/imhotep/imhotep/core/TaskState;" (.ref r5)) (S_DONE : Sta Z h0 "com/example/imhotep/imhotep/core/TaskState" "DONE" "Lcom/example/imhotep/imhotep/core/TaskState;" (.ref r4)) (ne_r1_r3 : r1 ≠ r3) (ne_r1_r0 : r1 ≠ r0) (ne_r1_r5 : r1 ≠ r5) (ne_r1_r4 : r1 ≠ r4) (ne_r3_r0 : r3 ≠ r0) (ne_r3_r5 : r3 ≠ r5) (ne_r3_r4 : r3 ≠ r4) :
    OwnMet l Z (⟨"com/example/imhotep/imhotep/core/TaskState", "isHeld", "()Z"⟩ : MethodName) prog_32_method_5_code 1 (some .boolean) ({ frames := 0, cells := 0, slots := 0, locals := 0 } : Room) #[(.ref r1)] h0 n0 (fun v h => v = some (.int (1 : Int32)) ∧ h0 = h) := by
  refine own_body own_pn5_r1 ?_
  intro p e s m below meth c s₁ RR X0
  refine own_enter (own_ef5_r1 m r1) ?_
  refine own_aloadN X0 own_d5_0 (pc' := 1) rfl rfl rfl ?_
  refine own_getS X0 own_d5_1 (hw _ (List.mem_of_getElem? (i := 60) rfl)) Via.refl S_RUNNING (pc' := 4) rfl ?_
  intro T1 X1
  refine own_acY X1 own_d5_4 (own_teqA ((rfl : r1 = r1))).1 (pc' := 14) (by decide) (by decide) ?_
  refine own_iconst X1 own_d5_14 (pc' := 15) rfl (v := (1 : Int32)) (by decide) ?_
  refine own_goto X1 own_d5_15 (pc' := 19) (by decide) (by decide) ?_
  exact own_retZ X1 own_d5_19 (by decide) ⟨rfl, rfl⟩ (by decide) (by decide)
theorem own_ef5_r3 (m : MethodId) (x0 : Addr) : entryFrame m #[(.ref x0)] 1 = mkF m 0 #[.val (.ref x0)] [] := by first | (simp [entryFrame, mkF, argsToLocals, Value.category]; done) | rfl
theorem own_pn5_r3 : plainFor (⟨"com/example/imhotep/imhotep/core/TaskState", "isHeld", "()Z"⟩ : MethodName) = true := by first | exact plainFor_of_name (by first | (simp [plainName, overriddenIn]; done) | decide +kernel) | exact Jvm.Free.JP.mathPlain rfl (by decide +kernel)
set_option maxRecDepth 65536 in
set_option maxHeartbeats 40000000 in
theorem own_rm5_r3 (l : Launch) (Z : State) (a0 : Array Value) (hw : ∀ d ∈ tables_1, d.before a0 Z = true) (r1 : Addr) (r3 : Addr) (r0 : Addr) (r5 : Addr) (r4 : Addr) (h0 : Heap) (n0 : Nat) (Z0 : n0 ≤ h0.size) (S_RUNNING : Sta Z h0 "com/example/imhotep/imhotep/core/TaskState" "RUNNING" "Lcom/example/imhotep/imhotep/core/TaskState;" (.ref r1)) (S_REVIEW : Sta Z h0 "com/example/imhotep/imhotep/core/TaskState" "REVIEW" "Lcom/example/imhotep/imhotep/core/TaskState;" (.ref r3)) (S_PENDING : Sta Z h0 "com/example/imhotep/imhotep/core/TaskState" "PENDING" "Lcom/example/imhotep/imhotep/core/TaskState;" (.ref r0)) (S_FAILED : Sta Z h0 "com/example/imhotep/imhotep/core/TaskState" "FAILED" "Lcom/example/imhotep/imhotep/core/TaskState;" (.ref r5)) (S_DONE : Sta Z h0 "com/example/imhotep/imhotep/core/TaskState" "DONE" "Lcom/example/imhotep/imhotep/core/TaskState;" (.ref r4)) (ne_r1_r3 : r1 ≠ r3) (ne_r1_r0 : r1 ≠ r0) (ne_r1_r5 : r1 ≠ r5) (ne_r1_r4 : r1 ≠ r4) (ne_r3_r0 : r3 ≠ r0) (ne_r3_r5 : r3 ≠ r5) (ne_r3_r4 : r3 ≠ r4) :
    OwnMet l Z (⟨"com/example/imhotep/imhotep/core/TaskState", "isHeld", "()Z"⟩ : MethodName) prog_32_method_5_code 1 (some .boolean) ({ frames := 0, cells := 0, slots := 0, locals := 0 } : Room) #[(.ref r3)] h0 n0 (fun v h => v = some (.int (1 : Int32)) ∧ h0 = h) := by
  refine own_body own_pn5_r3 ?_
  intro p e s m below meth c s₁ RR X0
  refine own_enter (own_ef5_r3 m r3) ?_
  refine own_aloadN X0 own_d5_0 (pc' := 1) rfl rfl rfl ?_
  refine own_getS X0 own_d5_1 (hw _ (List.mem_of_getElem? (i := 60) rfl)) Via.refl S_RUNNING (pc' := 4) rfl ?_
  intro T1 X1
  refine own_acN X1 own_d5_4 (own_feqA ((ne_r1_r3.symm : ¬ (r3 = r1)))).1 (pc' := 7) rfl ?_
  refine own_aloadN X1 own_d5_7 (pc' := 8) rfl rfl rfl ?_
  refine own_getS X1 own_d5_8 (hw _ (List.mem_of_getElem? (i := 65) rfl)) Via.refl S_REVIEW (pc' := 11) rfl ?_
  intro T2 X2
  refine own_acN X2 own_d5_11 (own_teqA ((rfl : r3 = r3))).2 (pc' := 14) rfl ?_
  refine own_iconst X2 own_d5_14 (pc' := 15) rfl (v := (1 : Int32)) (by decide) ?_
  refine own_goto X2 own_d5_15 (pc' := 19) (by decide) (by decide) ?_
  exact own_retZ X2 own_d5_19 (by decide) ⟨rfl, rfl⟩ (by decide) (by decide)
theorem own_pd0 : parseMethodDescriptor "()Z" = some ⟨[], some .boolean⟩ := by decide +kernel
theorem own_d4_0 : decode prog_36_method_8_code 0 = .ok (.aload_n 0, 1) := by decide +kernel
theorem own_d4_1 : decode prog_36_method_8_code 1 = .ok (.ifnull 28, 3) := by decide +kernel
theorem own_d4_4 : decode prog_36_method_8_code 4 = .ok (.aload_n 0, 1) := by decide +kernel
theorem own_d4_5 : decode prog_36_method_8_code 5 = .ok (.invokevirtual 90, 3) := by decide +kernel
theorem own_d4_8 : decode prog_36_method_8_code 8 = .ok (.ifCond .eq 21, 3) := by decide +kernel
theorem own_d4_11 : decode prog_36_method_8_code 11 = .ok (.aload_n 1, 1) := by decide +kernel
theorem own_d4_12 : decode prog_36_method_8_code 12 = .ok (.getstatic 71, 3) := by decide +kernel
theorem own_d4_15 : decode prog_36_method_8_code 15 = .ok (.if_acmp .eq 10, 3) := by decide +kernel
theorem own_d4_18 : decode prog_36_method_8_code 18 = .ok (.aload_n 1, 1) := by decide +kernel
theorem own_d4_19 : decode prog_36_method_8_code 19 = .ok (.getstatic 94, 3) := by decide +kernel
theorem own_d4_22 : decode prog_36_method_8_code 22 = .ok (.if_acmp .ne 7, 3) := by decide +kernel
theorem own_d4_25 : decode prog_36_method_8_code 25 = .ok (.iconst 1, 1) := by decide +kernel
theorem own_d4_26 : decode prog_36_method_8_code 26 = .ok (.goto 4, 3) := by decide +kernel
theorem own_d4_29 : decode prog_36_method_8_code 29 = .ok (.iconst 0, 1) := by decide +kernel
theorem own_d4_30 : decode prog_36_method_8_code 30 = .ok (.ireturn, 1) := by decide +kernel
theorem own_ef4_r1 (m : MethodId) (x0 : Addr) (x1 : Addr) : entryFrame m #[(.ref x0), (.ref x1)] 2 = mkF m 0 #[.val (.ref x0), .val (.ref x1)] [] := by first | (simp [entryFrame, mkF, argsToLocals, Value.category]; done) | rfl
theorem own_pn4_r1 : plainFor (⟨"com/example/imhotep/imhotep/core/Trigger", "failsHeld", "(Lcom/example/imhotep/imhotep/core/TaskState;Lcom/example/imhotep/imhotep/core/TaskState;)Z"⟩ : MethodName) = true := by first | exact plainFor_of_name (by first | (simp [plainName, overriddenIn]; done) | decide +kernel) | exact Jvm.Free.JP.mathPlain rfl (by decide +kernel)
set_option maxRecDepth 65536 in
set_option maxHeartbeats 40000000 in
theorem own_rm4_r1 (l : Launch) (Z : State) (a0 : Array Value) (hw : ∀ d ∈ tables_1, d.before a0 Z = true) (r1 : Addr) (r3 : Addr) (r0 : Addr) (r5 : Addr) (r4 : Addr) (h0 : Heap) (n0 : Nat) (Z0 : n0 ≤ h0.size) (S_RUNNING : Sta Z h0 "com/example/imhotep/imhotep/core/TaskState" "RUNNING" "Lcom/example/imhotep/imhotep/core/TaskState;" (.ref r1)) (S_REVIEW : Sta Z h0 "com/example/imhotep/imhotep/core/TaskState" "REVIEW" "Lcom/example/imhotep/imhotep/core/TaskState;" (.ref r3)) (S_PENDING : Sta Z h0 "com/example/imhotep/imhotep/core/TaskState" "PENDING" "Lcom/example/imhotep/imhotep/core/TaskState;" (.ref r0)) (S_FAILED : Sta Z h0 "com/example/imhotep/imhotep/core/TaskState" "FAILED" "Lcom/example/imhotep/imhotep/core/TaskState;" (.ref r5)) (S_DONE : Sta Z h0 "com/example/imhotep/imhotep/core/TaskState" "DONE" "Lcom/example/imhotep/imhotep/core/TaskState;" (.ref r4)) (E_r1 : Exa Z h0 r1 "com/example/imhotep/imhotep/core/TaskState") (E_r3 : Exa Z h0 r3 "com/example/imhotep/imhotep/core/TaskState") (ne_r1_r3 : r1 ≠ r3) (ne_r1_r0 : r1 ≠ r0) (ne_r1_r5 : r1 ≠ r5) (ne_r1_r4 : r1 ≠ r4) (ne_r3_r0 : r3 ≠ r0) (ne_r3_r5 : r3 ≠ r5) (ne_r3_r4 : r3 ≠ r4) :
    OwnMet l Z (⟨"com/example/imhotep/imhotep/core/Trigger", "failsHeld", "(Lcom/example/imhotep/imhotep/core/TaskState;Lcom/example/imhotep/imhotep/core/TaskState;)Z"⟩ : MethodName) prog_36_method_8_code 2 (some .boolean) ({ frames := 1, cells := 0, slots := 0, locals := 12 } : Room) #[(.ref r1), (.ref r3)] h0 n0 (fun v h => v = some (.int (0 : Int32)) ∧ h0 = h) := by
  refine own_body own_pn4_r1 ?_
  intro p e s m below meth c s₁ RR X0
  refine own_enter (own_ef4_r1 m r1 r3) ?_
  refine own_aloadN X0 own_d4_0 (pc' := 1) rfl rfl rfl ?_
  refine own_ifnullN X0 own_d4_1 (pc' := 4) rfl ?_
  refine own_aloadN X0 own_d4_4 (pc' := 5) rfl rfl rfl ?_
  refine own_callV (a := r1) (argsL := []) X0 own_d4_5 (y := (⟨"com/example/imhotep/imhotep/core/TaskState", "isHeld", "()Z"⟩ : MethodName)) (by decide) (hw _ (List.mem_of_getElem? (i := 55) rfl)) (hw _ (List.mem_of_getElem? (i := 56) rfl)) (hw _ (List.mem_of_getElem? (i := 58) rfl)) (hw _ (List.mem_of_getElem? (i := 57) rfl)) (hw _ (List.mem_of_getElem? (i := 59) rfl)) (hw _ (List.mem_of_getElem? (i := 26) rfl)) E_r1 (own_rm5_r1 l Z a0 hw r1 r3 r0 r5 r4 h0 n0 Z0 S_RUNNING S_REVIEW S_PENDING S_FAILED S_DONE ne_r1_r3 ne_r1_r0 ne_r1_r5 ne_r1_r4 ne_r3_r0 ne_r3_r5 ne_r3_r4) own_pd0 rfl (S := []) rfl (pc' := 8) rfl rfl (W := 0) (Nat.le_of_eq rfl) (by decide) (by decide) (by decide) (by decide) ?_
  intro T1 h1 v1_ X1 q1_
  obtain ⟨rfl, rfl⟩ := q1_
  show OwnGo p e below (T1.setTop (mkF m 8 #[.val (.ref r1), .val (.ref r3)] [(.int (1 : Int32))])) RR
  refine own_ifN X1 own_d4_8 (feq ((by decide : ¬ ((1 : Int32) = (0 : Int32))))).1 (pc' := 11) rfl ?_
  refine own_aloadN X1 own_d4_11 (pc' := 12) rfl rfl rfl ?_
  refine own_getS X1 own_d4_12 (hw _ (List.mem_of_getElem? (i := 61) rfl)) Via.refl S_PENDING (pc' := 15) rfl ?_
  intro T2 X2
  refine own_acN X2 own_d4_15 (own_feqA ((ne_r3_r0 : ¬ (r3 = r0)))).1 (pc' := 18) rfl ?_
  refine own_aloadN X2 own_d4_18 (pc' := 19) rfl rfl rfl ?_
  refine own_getS X2 own_d4_19 (hw _ (List.mem_of_getElem? (i := 63) rfl)) Via.refl S_FAILED (pc' := 22) rfl ?_
  intro T3 X3
  refine own_acY X3 own_d4_22 (own_feqA ((ne_r3_r5 : ¬ (r3 = r5)))).2 (pc' := 29) (by decide) (by decide) ?_
  refine own_iconst X3 own_d4_29 (pc' := 30) rfl (v := (0 : Int32)) (by decide) ?_
  exact own_retZ X3 own_d4_30 (by decide) ⟨rfl, rfl⟩ (by decide) (by decide)
theorem own_ef4_r3 (m : MethodId) (x0 : Addr) (x1 : Addr) : entryFrame m #[(.ref x0), (.ref x1)] 2 = mkF m 0 #[.val (.ref x0), .val (.ref x1)] [] := by first | (simp [entryFrame, mkF, argsToLocals, Value.category]; done) | rfl
theorem own_pn4_r3 : plainFor (⟨"com/example/imhotep/imhotep/core/Trigger", "failsHeld", "(Lcom/example/imhotep/imhotep/core/TaskState;Lcom/example/imhotep/imhotep/core/TaskState;)Z"⟩ : MethodName) = true := by first | exact plainFor_of_name (by first | (simp [plainName, overriddenIn]; done) | decide +kernel) | exact Jvm.Free.JP.mathPlain rfl (by decide +kernel)
set_option maxRecDepth 65536 in
set_option maxHeartbeats 40000000 in
theorem own_rm4_r3 (l : Launch) (Z : State) (a0 : Array Value) (hw : ∀ d ∈ tables_1, d.before a0 Z = true) (r1 : Addr) (r3 : Addr) (r0 : Addr) (r5 : Addr) (r4 : Addr) (h0 : Heap) (n0 : Nat) (Z0 : n0 ≤ h0.size) (S_RUNNING : Sta Z h0 "com/example/imhotep/imhotep/core/TaskState" "RUNNING" "Lcom/example/imhotep/imhotep/core/TaskState;" (.ref r1)) (S_REVIEW : Sta Z h0 "com/example/imhotep/imhotep/core/TaskState" "REVIEW" "Lcom/example/imhotep/imhotep/core/TaskState;" (.ref r3)) (S_PENDING : Sta Z h0 "com/example/imhotep/imhotep/core/TaskState" "PENDING" "Lcom/example/imhotep/imhotep/core/TaskState;" (.ref r0)) (S_FAILED : Sta Z h0 "com/example/imhotep/imhotep/core/TaskState" "FAILED" "Lcom/example/imhotep/imhotep/core/TaskState;" (.ref r5)) (S_DONE : Sta Z h0 "com/example/imhotep/imhotep/core/TaskState" "DONE" "Lcom/example/imhotep/imhotep/core/TaskState;" (.ref r4)) (E_r1 : Exa Z h0 r1 "com/example/imhotep/imhotep/core/TaskState") (E_r3 : Exa Z h0 r3 "com/example/imhotep/imhotep/core/TaskState") (ne_r1_r3 : r1 ≠ r3) (ne_r1_r0 : r1 ≠ r0) (ne_r1_r5 : r1 ≠ r5) (ne_r1_r4 : r1 ≠ r4) (ne_r3_r0 : r3 ≠ r0) (ne_r3_r5 : r3 ≠ r5) (ne_r3_r4 : r3 ≠ r4) :
    OwnMet l Z (⟨"com/example/imhotep/imhotep/core/Trigger", "failsHeld", "(Lcom/example/imhotep/imhotep/core/TaskState;Lcom/example/imhotep/imhotep/core/TaskState;)Z"⟩ : MethodName) prog_36_method_8_code 2 (some .boolean) ({ frames := 1, cells := 0, slots := 0, locals := 12 } : Room) #[(.ref r3), (.ref r1)] h0 n0 (fun v h => v = some (.int (0 : Int32)) ∧ h0 = h) := by
  refine own_body own_pn4_r3 ?_
  intro p e s m below meth c s₁ RR X0
  refine own_enter (own_ef4_r3 m r3 r1) ?_
  refine own_aloadN X0 own_d4_0 (pc' := 1) rfl rfl rfl ?_
  refine own_ifnullN X0 own_d4_1 (pc' := 4) rfl ?_
  refine own_aloadN X0 own_d4_4 (pc' := 5) rfl rfl rfl ?_
  refine own_callV (a := r3) (argsL := []) X0 own_d4_5 (y := (⟨"com/example/imhotep/imhotep/core/TaskState", "isHeld", "()Z"⟩ : MethodName)) (by decide) (hw _ (List.mem_of_getElem? (i := 55) rfl)) (hw _ (List.mem_of_getElem? (i := 56) rfl)) (hw _ (List.mem_of_getElem? (i := 58) rfl)) (hw _ (List.mem_of_getElem? (i := 57) rfl)) (hw _ (List.mem_of_getElem? (i := 59) rfl)) (hw _ (List.mem_of_getElem? (i := 26) rfl)) E_r3 (own_rm5_r3 l Z a0 hw r1 r3 r0 r5 r4 h0 n0 Z0 S_RUNNING S_REVIEW S_PENDING S_FAILED S_DONE ne_r1_r3 ne_r1_r0 ne_r1_r5 ne_r1_r4 ne_r3_r0 ne_r3_r5 ne_r3_r4) own_pd0 rfl (S := []) rfl (pc' := 8) rfl rfl (W := 0) (Nat.le_of_eq rfl) (by decide) (by decide) (by decide) (by decide) ?_
  intro T1 h1 v1_ X1 q1_
  obtain ⟨rfl, rfl⟩ := q1_
  show OwnGo p e below (T1.setTop (mkF m 8 #[.val (.ref r3), .val (.ref r1)] [(.int (1 : Int32))])) RR
  refine own_ifN X1 own_d4_8 (feq ((by decide : ¬ ((1 : Int32) = (0 : Int32))))).1 (pc' := 11) rfl ?_
  refine own_aloadN X1 own_d4_11 (pc' := 12) rfl rfl rfl ?_
  refine own_getS X1 own_d4_12 (hw _ (List.mem_of_getElem? (i := 61) rfl)) Via.refl S_PENDING (pc' := 15) rfl ?_
  intro T2 X2
  refine own_acN X2 own_d4_15 (own_feqA ((ne_r1_r0 : ¬ (r1 = r0)))).1 (pc' := 18) rfl ?_
  refine own_aloadN X2 own_d4_18 (pc' := 19) rfl rfl rfl ?_
  refine own_getS X2 own_d4_19 (hw _ (List.mem_of_getElem? (i := 63) rfl)) Via.refl S_FAILED (pc' := 22) rfl ?_
  intro T3 X3
  refine own_acY X3 own_d4_22 (own_feqA ((ne_r1_r5 : ¬ (r1 = r5)))).2 (pc' := 29) (by decide) (by decide) ?_
  refine own_iconst X3 own_d4_29 (pc' := 30) rfl (v := (0 : Int32)) (by decide) ?_
  exact own_retZ X3 own_d4_30 (by decide) ⟨rfl, rfl⟩ (by decide) (by decide)
theorem own_pd1 : parseMethodDescriptor "()I" = some ⟨[], some .int⟩ := by decide +kernel
theorem own_d1_0 : decode prog_36_method_6_code 0 = .ok (.aload_n 0, 1) := by decide +kernel
theorem own_d1_1 : decode prog_36_method_6_code 1 = .ok (.invokevirtual 62, 3) := by decide +kernel
theorem own_d1_4 : decode prog_36_method_6_code 4 = .ok (.tableswitch 56 0 9 #[66, 85, 107, 137, 137, 145, 145, 168, 190, 190], 56) := by decide +kernel
theorem own_d1_60 : decode prog_36_method_6_code 60 = .ok (.new 66, 3) := by decide +kernel
theorem own_d1_63 : decode prog_36_method_6_code 63 = .ok (.dup, 1) := by decide +kernel
theorem own_d1_64 : decode prog_36_method_6_code 64 = .ok (.aconst_null, 1) := by decide +kernel
theorem own_d1_65 : decode prog_36_method_6_code 65 = .ok (.aconst_null, 1) := by decide +kernel
theorem own_d1_66 : decode prog_36_method_6_code 66 = .ok (.invokespecial 68, 3) := by decide +kernel
theorem own_d1_69 : decode prog_36_method_6_code 69 = .ok (.athrow, 1) := by decide +kernel
theorem own_d1_70 : decode prog_36_method_6_code 70 = .ok (.aload_n 1, 1) := by decide +kernel
theorem own_d1_71 : decode prog_36_method_6_code 71 = .ok (.ifnonnull 14, 3) := by decide +kernel
theorem own_d1_74 : decode prog_36_method_6_code 74 = .ok (.aload_n 2, 1) := by decide +kernel
theorem own_d1_75 : decode prog_36_method_6_code 75 = .ok (.getstatic 71, 3) := by decide +kernel
theorem own_d1_78 : decode prog_36_method_6_code 78 = .ok (.if_acmp .ne 7, 3) := by decide +kernel
theorem own_d1_81 : decode prog_36_method_6_code 81 = .ok (.iconst 1, 1) := by decide +kernel
theorem own_d1_82 : decode prog_36_method_6_code 82 = .ok (.goto 131, 3) := by decide +kernel
theorem own_d1_85 : decode prog_36_method_6_code 85 = .ok (.iconst 0, 1) := by decide +kernel
theorem own_d1_86 : decode prog_36_method_6_code 86 = .ok (.goto 127, 3) := by decide +kernel
theorem own_d1_89 : decode prog_36_method_6_code 89 = .ok (.aload_n 1, 1) := by decide +kernel
theorem own_d1_90 : decode prog_36_method_6_code 90 = .ok (.getstatic 71, 3) := by decide +kernel
theorem own_d1_93 : decode prog_36_method_6_code 93 = .ok (.if_acmp .ne 14, 3) := by decide +kernel
theorem own_d1_96 : decode prog_36_method_6_code 96 = .ok (.aload_n 2, 1) := by decide +kernel
theorem own_d1_97 : decode prog_36_method_6_code 97 = .ok (.getstatic 77, 3) := by decide +kernel
theorem own_d1_100 : decode prog_36_method_6_code 100 = .ok (.if_acmp .ne 7, 3) := by decide +kernel
theorem own_d1_103 : decode prog_36_method_6_code 103 = .ok (.iconst 1, 1) := by decide +kernel
theorem own_d1_104 : decode prog_36_method_6_code 104 = .ok (.goto 109, 3) := by decide +kernel
theorem own_d1_107 : decode prog_36_method_6_code 107 = .ok (.iconst 0, 1) := by decide +kernel
theorem own_d1_108 : decode prog_36_method_6_code 108 = .ok (.goto 105, 3) := by decide +kernel
theorem own_d1_111 : decode prog_36_method_6_code 111 = .ok (.aload_n 1, 1) := by decide +kernel
theorem own_d1_112 : decode prog_36_method_6_code 112 = .ok (.getstatic 77, 3) := by decide +kernel
theorem own_d1_115 : decode prog_36_method_6_code 115 = .ok (.if_acmp .ne 10, 3) := by decide +kernel
theorem own_d1_118 : decode prog_36_method_6_code 118 = .ok (.aload_n 2, 1) := by decide +kernel
theorem own_d1_119 : decode prog_36_method_6_code 119 = .ok (.getstatic 80, 3) := by decide +kernel
theorem own_d1_122 : decode prog_36_method_6_code 122 = .ok (.if_acmp .eq 11, 3) := by decide +kernel
theorem own_d1_125 : decode prog_36_method_6_code 125 = .ok (.aload_n 1, 1) := by decide +kernel
theorem own_d1_126 : decode prog_36_method_6_code 126 = .ok (.aload_n 2, 1) := by decide +kernel
theorem own_d1_127 : decode prog_36_method_6_code 127 = .ok (.invokestatic 83, 3) := by decide +kernel
theorem own_d1_130 : decode prog_36_method_6_code 130 = .ok (.ifCond .eq 7, 3) := by decide +kernel
theorem own_d1_133 : decode prog_36_method_6_code 133 = .ok (.iconst 1, 1) := by decide +kernel
theorem own_d1_134 : decode prog_36_method_6_code 134 = .ok (.goto 79, 3) := by decide +kernel
theorem own_d1_137 : decode prog_36_method_6_code 137 = .ok (.iconst 0, 1) := by decide +kernel
theorem own_d1_138 : decode prog_36_method_6_code 138 = .ok (.goto 75, 3) := by decide +kernel
theorem own_d1_141 : decode prog_36_method_6_code 141 = .ok (.aload_n 1, 1) := by decide +kernel
theorem own_d1_142 : decode prog_36_method_6_code 142 = .ok (.aload_n 2, 1) := by decide +kernel
theorem own_d1_143 : decode prog_36_method_6_code 143 = .ok (.invokestatic 83, 3) := by decide +kernel
theorem own_d1_146 : decode prog_36_method_6_code 146 = .ok (.goto 67, 3) := by decide +kernel
theorem own_d1_149 : decode prog_36_method_6_code 149 = .ok (.aload_n 1, 1) := by decide +kernel
theorem own_d1_150 : decode prog_36_method_6_code 150 = .ok (.getstatic 77, 3) := by decide +kernel
theorem own_d1_153 : decode prog_36_method_6_code 153 = .ok (.if_acmp .ne 15, 3) := by decide +kernel
theorem own_d1_156 : decode prog_36_method_6_code 156 = .ok (.aload_n 1, 1) := by decide +kernel
theorem own_d1_157 : decode prog_36_method_6_code 157 = .ok (.aload_n 2, 1) := by decide +kernel
theorem own_d1_158 : decode prog_36_method_6_code 158 = .ok (.invokestatic 83, 3) := by decide +kernel
theorem own_d1_161 : decode prog_36_method_6_code 161 = .ok (.ifCond .eq 7, 3) := by decide +kernel
theorem own_d1_164 : decode prog_36_method_6_code 164 = .ok (.iconst 1, 1) := by decide +kernel
theorem own_d1_165 : decode prog_36_method_6_code 165 = .ok (.goto 48, 3) := by decide +kernel
theorem own_d1_168 : decode prog_36_method_6_code 168 = .ok (.iconst 0, 1) := by decide +kernel
theorem own_d1_169 : decode prog_36_method_6_code 169 = .ok (.goto 44, 3) := by decide +kernel
theorem own_d1_172 : decode prog_36_method_6_code 172 = .ok (.aload_n 1, 1) := by decide +kernel
theorem own_d1_173 : decode prog_36_method_6_code 173 = .ok (.getstatic 77, 3) := by decide +kernel
theorem own_d1_176 : decode prog_36_method_6_code 176 = .ok (.if_acmp .ne 14, 3) := by decide +kernel
theorem own_d1_179 : decode prog_36_method_6_code 179 = .ok (.aload_n 2, 1) := by decide +kernel
theorem own_d1_180 : decode prog_36_method_6_code 180 = .ok (.getstatic 87, 3) := by decide +kernel
theorem own_d1_183 : decode prog_36_method_6_code 183 = .ok (.if_acmp .ne 7, 3) := by decide +kernel
theorem own_d1_186 : decode prog_36_method_6_code 186 = .ok (.iconst 1, 1) := by decide +kernel
theorem own_d1_187 : decode prog_36_method_6_code 187 = .ok (.goto 26, 3) := by decide +kernel
theorem own_d1_190 : decode prog_36_method_6_code 190 = .ok (.iconst 0, 1) := by decide +kernel
theorem own_d1_191 : decode prog_36_method_6_code 191 = .ok (.goto 22, 3) := by decide +kernel
theorem own_d1_194 : decode prog_36_method_6_code 194 = .ok (.aload_n 1, 1) := by decide +kernel
theorem own_d1_195 : decode prog_36_method_6_code 195 = .ok (.getstatic 87, 3) := by decide +kernel
theorem own_d1_198 : decode prog_36_method_6_code 198 = .ok (.if_acmp .ne 14, 3) := by decide +kernel
theorem own_d1_201 : decode prog_36_method_6_code 201 = .ok (.aload_n 2, 1) := by decide +kernel
theorem own_d1_202 : decode prog_36_method_6_code 202 = .ok (.getstatic 77, 3) := by decide +kernel
theorem own_d1_205 : decode prog_36_method_6_code 205 = .ok (.if_acmp .ne 7, 3) := by decide +kernel
theorem own_d1_208 : decode prog_36_method_6_code 208 = .ok (.iconst 1, 1) := by decide +kernel
theorem own_d1_209 : decode prog_36_method_6_code 209 = .ok (.goto 4, 3) := by decide +kernel
theorem own_d1_212 : decode prog_36_method_6_code 212 = .ok (.iconst 0, 1) := by decide +kernel
theorem own_d1_213 : decode prog_36_method_6_code 213 = .ok (.ireturn, 1) := by decide +kernel
theorem own_ef1_0_r1 (m : MethodId) (x0 : Addr) (x1 : Addr) (x2 : Addr) : entryFrame m #[(.ref x0), (.ref x1), (.ref x2)] 3 = mkF m 0 #[.val (.ref x0), .val (.ref x1), .val (.ref x2)] [] := by first | (simp [entryFrame, mkF, argsToLocals, Value.category]; done) | rfl
theorem own_pn1_0_r1 : plainFor (⟨"com/example/imhotep/imhotep/core/Trigger", "allows", "(Lcom/example/imhotep/imhotep/core/TaskState;Lcom/example/imhotep/imhotep/core/TaskState;)Z"⟩ : MethodName) = true := by first | exact plainFor_of_name (by first | (simp [plainName, overriddenIn]; done) | decide +kernel) | exact Jvm.Free.JP.mathPlain rfl (by decide +kernel)
set_option maxRecDepth 65536 in
set_option maxHeartbeats 40000000 in
theorem own_rm1_0_r1 (l : Launch) (Z : State) (a0 : Array Value) (hw : ∀ d ∈ tables_1, d.before a0 Z = true) (a1 : Addr) (r1 : Addr) (r3 : Addr) (r0 : Addr) (r5 : Addr) (r4 : Addr) (h0 : Heap) (n0 : Nat) (Z0 : n0 ≤ h0.size) (E_a1 : Exa Z h0 a1 "com/example/imhotep/imhotep/core/Trigger") (F_ordinal_a1 : Fld Z h0 a1 "java/lang/Enum" "ordinal" "I" (.int (0 : Int32))) (S_RUNNING : Sta Z h0 "com/example/imhotep/imhotep/core/TaskState" "RUNNING" "Lcom/example/imhotep/imhotep/core/TaskState;" (.ref r1)) (S_REVIEW : Sta Z h0 "com/example/imhotep/imhotep/core/TaskState" "REVIEW" "Lcom/example/imhotep/imhotep/core/TaskState;" (.ref r3)) (S_PENDING : Sta Z h0 "com/example/imhotep/imhotep/core/TaskState" "PENDING" "Lcom/example/imhotep/imhotep/core/TaskState;" (.ref r0)) (S_FAILED : Sta Z h0 "com/example/imhotep/imhotep/core/TaskState" "FAILED" "Lcom/example/imhotep/imhotep/core/TaskState;" (.ref r5)) (S_DONE : Sta Z h0 "com/example/imhotep/imhotep/core/TaskState" "DONE" "Lcom/example/imhotep/imhotep/core/TaskState;" (.ref r4)) (E_r1 : Exa Z h0 r1 "com/example/imhotep/imhotep/core/TaskState") (E_r3 : Exa Z h0 r3 "com/example/imhotep/imhotep/core/TaskState") (ne_r1_r3 : r1 ≠ r3) (ne_r1_r0 : r1 ≠ r0) (ne_r1_r5 : r1 ≠ r5) (ne_r1_r4 : r1 ≠ r4) (ne_r3_r0 : r3 ≠ r0) (ne_r3_r5 : r3 ≠ r5) (ne_r3_r4 : r3 ≠ r4) :
    OwnMet l Z (⟨"com/example/imhotep/imhotep/core/Trigger", "allows", "(Lcom/example/imhotep/imhotep/core/TaskState;Lcom/example/imhotep/imhotep/core/TaskState;)Z"⟩ : MethodName) prog_36_method_6_code 3 (some .boolean) ({ frames := 2, cells := 0, slots := 0, locals := 40 } : Room) #[(.ref a1), (.ref r1), (.ref r3)] h0 n0 (fun v h => v = some (.int (0 : Int32)) ∧ h0 = h) := by
  refine own_body own_pn1_0_r1 ?_
  intro p e s m below meth c s₁ RR X0
  refine own_enter (own_ef1_0_r1 m a1 r1 r3) ?_
  refine own_aloadN X0 own_d1_0 (pc' := 1) rfl rfl rfl ?_
  refine own_callU (a := a1) (argsL := []) X0 own_d1_1 (y := (⟨"com/example/imhotep/imhotep/core/Trigger", "ordinal", "()I"⟩ : MethodName)) (z := (⟨"java/lang/Enum", "ordinal", "()I"⟩ : MethodName)) (by decide) (hw _ (List.mem_of_getElem? (i := 35) rfl)) (hw _ (List.mem_of_getElem? (i := 36) rfl)) (hw _ (List.mem_of_getElem? (i := 37) rfl)) (hw _ (List.mem_of_getElem? (i := 39) rfl)) (hw _ (List.mem_of_getElem? (i := 38) rfl)) (hw _ (List.mem_of_getElem? (i := 41) rfl)) (hw _ (List.mem_of_getElem? (i := 40) rfl)) E_a1 (own_rm2 l Z a0 hw a1 (0 : Int32) h0 n0 Z0 F_ordinal_a1) own_pd1 rfl (S := []) rfl (pc' := 4) rfl rfl (W := 0) (Nat.le_of_eq rfl) (by decide) (by decide) (by decide) (by decide) ?_
  intro T1 h1 v1_ X1 q1_
  obtain ⟨rfl, rfl⟩ := q1_
  show OwnGo p e below (T1.setTop (mkF m 4 #[.val (.ref a1), .val (.ref r1), .val (.ref r3)] [(.int (0 : Int32))])) RR
  refine own_tsw X1 own_d1_4 (o := 66) (by decide) rfl (pc' := 70) (by decide) (by decide) ?_
  refine own_aloadN X1 own_d1_70 (pc' := 71) rfl rfl rfl ?_
  refine own_ifnonnullY X1 own_d1_71 (pc' := 85) (by decide) (by decide) ?_
  refine own_iconst X1 own_d1_85 (pc' := 86) rfl (v := (0 : Int32)) (by decide) ?_
  refine own_goto X1 own_d1_86 (pc' := 213) (by decide) (by decide) ?_
  exact own_retZ X1 own_d1_213 (by decide) ⟨rfl, rfl⟩ (by decide) (by decide)
theorem own_ef1_0_r3 (m : MethodId) (x0 : Addr) (x1 : Addr) (x2 : Addr) : entryFrame m #[(.ref x0), (.ref x1), (.ref x2)] 3 = mkF m 0 #[.val (.ref x0), .val (.ref x1), .val (.ref x2)] [] := by first | (simp [entryFrame, mkF, argsToLocals, Value.category]; done) | rfl
theorem own_pn1_0_r3 : plainFor (⟨"com/example/imhotep/imhotep/core/Trigger", "allows", "(Lcom/example/imhotep/imhotep/core/TaskState;Lcom/example/imhotep/imhotep/core/TaskState;)Z"⟩ : MethodName) = true := by first | exact plainFor_of_name (by first | (simp [plainName, overriddenIn]; done) | decide +kernel) | exact Jvm.Free.JP.mathPlain rfl (by decide +kernel)
set_option maxRecDepth 65536 in
set_option maxHeartbeats 40000000 in
theorem own_rm1_0_r3 (l : Launch) (Z : State) (a0 : Array Value) (hw : ∀ d ∈ tables_1, d.before a0 Z = true) (a1 : Addr) (r1 : Addr) (r3 : Addr) (r0 : Addr) (r5 : Addr) (r4 : Addr) (h0 : Heap) (n0 : Nat) (Z0 : n0 ≤ h0.size) (E_a1 : Exa Z h0 a1 "com/example/imhotep/imhotep/core/Trigger") (F_ordinal_a1 : Fld Z h0 a1 "java/lang/Enum" "ordinal" "I" (.int (0 : Int32))) (S_RUNNING : Sta Z h0 "com/example/imhotep/imhotep/core/TaskState" "RUNNING" "Lcom/example/imhotep/imhotep/core/TaskState;" (.ref r1)) (S_REVIEW : Sta Z h0 "com/example/imhotep/imhotep/core/TaskState" "REVIEW" "Lcom/example/imhotep/imhotep/core/TaskState;" (.ref r3)) (S_PENDING : Sta Z h0 "com/example/imhotep/imhotep/core/TaskState" "PENDING" "Lcom/example/imhotep/imhotep/core/TaskState;" (.ref r0)) (S_FAILED : Sta Z h0 "com/example/imhotep/imhotep/core/TaskState" "FAILED" "Lcom/example/imhotep/imhotep/core/TaskState;" (.ref r5)) (S_DONE : Sta Z h0 "com/example/imhotep/imhotep/core/TaskState" "DONE" "Lcom/example/imhotep/imhotep/core/TaskState;" (.ref r4)) (E_r1 : Exa Z h0 r1 "com/example/imhotep/imhotep/core/TaskState") (E_r3 : Exa Z h0 r3 "com/example/imhotep/imhotep/core/TaskState") (ne_r1_r3 : r1 ≠ r3) (ne_r1_r0 : r1 ≠ r0) (ne_r1_r5 : r1 ≠ r5) (ne_r1_r4 : r1 ≠ r4) (ne_r3_r0 : r3 ≠ r0) (ne_r3_r5 : r3 ≠ r5) (ne_r3_r4 : r3 ≠ r4) :
    OwnMet l Z (⟨"com/example/imhotep/imhotep/core/Trigger", "allows", "(Lcom/example/imhotep/imhotep/core/TaskState;Lcom/example/imhotep/imhotep/core/TaskState;)Z"⟩ : MethodName) prog_36_method_6_code 3 (some .boolean) ({ frames := 2, cells := 0, slots := 0, locals := 40 } : Room) #[(.ref a1), (.ref r3), (.ref r1)] h0 n0 (fun v h => v = some (.int (0 : Int32)) ∧ h0 = h) := by
  refine own_body own_pn1_0_r3 ?_
  intro p e s m below meth c s₁ RR X0
  refine own_enter (own_ef1_0_r3 m a1 r3 r1) ?_
  refine own_aloadN X0 own_d1_0 (pc' := 1) rfl rfl rfl ?_
  refine own_callU (a := a1) (argsL := []) X0 own_d1_1 (y := (⟨"com/example/imhotep/imhotep/core/Trigger", "ordinal", "()I"⟩ : MethodName)) (z := (⟨"java/lang/Enum", "ordinal", "()I"⟩ : MethodName)) (by decide) (hw _ (List.mem_of_getElem? (i := 35) rfl)) (hw _ (List.mem_of_getElem? (i := 36) rfl)) (hw _ (List.mem_of_getElem? (i := 37) rfl)) (hw _ (List.mem_of_getElem? (i := 39) rfl)) (hw _ (List.mem_of_getElem? (i := 38) rfl)) (hw _ (List.mem_of_getElem? (i := 41) rfl)) (hw _ (List.mem_of_getElem? (i := 40) rfl)) E_a1 (own_rm2 l Z a0 hw a1 (0 : Int32) h0 n0 Z0 F_ordinal_a1) own_pd1 rfl (S := []) rfl (pc' := 4) rfl rfl (W := 0) (Nat.le_of_eq rfl) (by decide) (by decide) (by decide) (by decide) ?_
  intro T1 h1 v1_ X1 q1_
  obtain ⟨rfl, rfl⟩ := q1_
  show OwnGo p e below (T1.setTop (mkF m 4 #[.val (.ref a1), .val (.ref r3), .val (.ref r1)] [(.int (0 : Int32))])) RR
  refine own_tsw X1 own_d1_4 (o := 66) (by decide) rfl (pc' := 70) (by decide) (by decide) ?_
  refine own_aloadN X1 own_d1_70 (pc' := 71) rfl rfl rfl ?_
  refine own_ifnonnullY X1 own_d1_71 (pc' := 85) (by decide) (by decide) ?_
  refine own_iconst X1 own_d1_85 (pc' := 86) rfl (v := (0 : Int32)) (by decide) ?_
  refine own_goto X1 own_d1_86 (pc' := 213) (by decide) (by decide) ?_
  exact own_retZ X1 own_d1_213 (by decide) ⟨rfl, rfl⟩ (by decide) (by decide)
theorem own_ef1_1_r1 (m : MethodId) (x0 : Addr) (x1 : Addr) (x2 : Addr) : entryFrame m #[(.ref x0), (.ref x1), (.ref x2)] 3 = mkF m 0 #[.val (.ref x0), .val (.ref x1), .val (.ref x2)] [] := by first | (simp [entryFrame, mkF, argsToLocals, Value.category]; done) | rfl
theorem own_pn1_1_r1 : plainFor (⟨"com/example/imhotep/imhotep/core/Trigger", "allows", "(Lcom/example/imhotep/imhotep/core/TaskState;Lcom/example/imhotep/imhotep/core/TaskState;)Z"⟩ : MethodName) = true := by first | exact plainFor_of_name (by first | (simp [plainName, overriddenIn]; done) | decide +kernel) | exact Jvm.Free.JP.mathPlain rfl (by decide +kernel)
set_option maxRecDepth 65536 in
set_option maxHeartbeats 40000000 in
theorem own_rm1_1_r1 (l : Launch) (Z : State) (a0 : Array Value) (hw : ∀ d ∈ tables_1, d.before a0 Z = true) (a1 : Addr) (r1 : Addr) (r3 : Addr) (r0 : Addr) (r5 : Addr) (r4 : Addr) (h0 : Heap) (n0 : Nat) (Z0 : n0 ≤ h0.size) (E_a1 : Exa Z h0 a1 "com/example/imhotep/imhotep/core/Trigger") (F_ordinal_a1 : Fld Z h0 a1 "java/lang/Enum" "ordinal" "I" (.int (1 : Int32))) (S_RUNNING : Sta Z h0 "com/example/imhotep/imhotep/core/TaskState" "RUNNING" "Lcom/example/imhotep/imhotep/core/TaskState;" (.ref r1)) (S_REVIEW : Sta Z h0 "com/example/imhotep/imhotep/core/TaskState" "REVIEW" "Lcom/example/imhotep/imhotep/core/TaskState;" (.ref r3)) (S_PENDING : Sta Z h0 "com/example/imhotep/imhotep/core/TaskState" "PENDING" "Lcom/example/imhotep/imhotep/core/TaskState;" (.ref r0)) (S_FAILED : Sta Z h0 "com/example/imhotep/imhotep/core/TaskState" "FAILED" "Lcom/example/imhotep/imhotep/core/TaskState;" (.ref r5)) (S_DONE : Sta Z h0 "com/example/imhotep/imhotep/core/TaskState" "DONE" "Lcom/example/imhotep/imhotep/core/TaskState;" (.ref r4)) (E_r1 : Exa Z h0 r1 "com/example/imhotep/imhotep/core/TaskState") (E_r3 : Exa Z h0 r3 "com/example/imhotep/imhotep/core/TaskState") (ne_r1_r3 : r1 ≠ r3) (ne_r1_r0 : r1 ≠ r0) (ne_r1_r5 : r1 ≠ r5) (ne_r1_r4 : r1 ≠ r4) (ne_r3_r0 : r3 ≠ r0) (ne_r3_r5 : r3 ≠ r5) (ne_r3_r4 : r3 ≠ r4) :
    OwnMet l Z (⟨"com/example/imhotep/imhotep/core/Trigger", "allows", "(Lcom/example/imhotep/imhotep/core/TaskState;Lcom/example/imhotep/imhotep/core/TaskState;)Z"⟩ : MethodName) prog_36_method_6_code 3 (some .boolean) ({ frames := 2, cells := 0, slots := 0, locals := 40 } : Room) #[(.ref a1), (.ref r1), (.ref r3)] h0 n0 (fun v h => v = some (.int (0 : Int32)) ∧ h0 = h) := by
  refine own_body own_pn1_1_r1 ?_
  intro p e s m below meth c s₁ RR X0
  refine own_enter (own_ef1_1_r1 m a1 r1 r3) ?_
  refine own_aloadN X0 own_d1_0 (pc' := 1) rfl rfl rfl ?_
  refine own_callU (a := a1) (argsL := []) X0 own_d1_1 (y := (⟨"com/example/imhotep/imhotep/core/Trigger", "ordinal", "()I"⟩ : MethodName)) (z := (⟨"java/lang/Enum", "ordinal", "()I"⟩ : MethodName)) (by decide) (hw _ (List.mem_of_getElem? (i := 35) rfl)) (hw _ (List.mem_of_getElem? (i := 36) rfl)) (hw _ (List.mem_of_getElem? (i := 37) rfl)) (hw _ (List.mem_of_getElem? (i := 39) rfl)) (hw _ (List.mem_of_getElem? (i := 38) rfl)) (hw _ (List.mem_of_getElem? (i := 41) rfl)) (hw _ (List.mem_of_getElem? (i := 40) rfl)) E_a1 (own_rm2 l Z a0 hw a1 (1 : Int32) h0 n0 Z0 F_ordinal_a1) own_pd1 rfl (S := []) rfl (pc' := 4) rfl rfl (W := 0) (Nat.le_of_eq rfl) (by decide) (by decide) (by decide) (by decide) ?_
  intro T1 h1 v1_ X1 q1_
  obtain ⟨rfl, rfl⟩ := q1_
  show OwnGo p e below (T1.setTop (mkF m 4 #[.val (.ref a1), .val (.ref r1), .val (.ref r3)] [(.int (1 : Int32))])) RR
  refine own_tsw X1 own_d1_4 (o := 85) (by decide) rfl (pc' := 89) (by decide) (by decide) ?_
  refine own_aloadN X1 own_d1_89 (pc' := 90) rfl rfl rfl ?_
  refine own_getS X1 own_d1_90 (hw _ (List.mem_of_getElem? (i := 61) rfl)) Via.refl S_PENDING (pc' := 93) rfl ?_
  intro T2 X2
  refine own_acY X2 own_d1_93 (own_feqA ((ne_r1_r0 : ¬ (r1 = r0)))).2 (pc' := 107) (by decide) (by decide) ?_
  refine own_iconst X2 own_d1_107 (pc' := 108) rfl (v := (0 : Int32)) (by decide) ?_
  refine own_goto X2 own_d1_108 (pc' := 213) (by decide) (by decide) ?_
  exact own_retZ X2 own_d1_213 (by decide) ⟨rfl, rfl⟩ (by decide) (by decide)
theorem own_ef1_1_r3 (m : MethodId) (x0 : Addr) (x1 : Addr) (x2 : Addr) : entryFrame m #[(.ref x0), (.ref x1), (.ref x2)] 3 = mkF m 0 #[.val (.ref x0), .val (.ref x1), .val (.ref x2)] [] := by first | (simp [entryFrame, mkF, argsToLocals, Value.category]; done) | rfl
theorem own_pn1_1_r3 : plainFor (⟨"com/example/imhotep/imhotep/core/Trigger", "allows", "(Lcom/example/imhotep/imhotep/core/TaskState;Lcom/example/imhotep/imhotep/core/TaskState;)Z"⟩ : MethodName) = true := by first | exact plainFor_of_name (by first | (simp [plainName, overriddenIn]; done) | decide +kernel) | exact Jvm.Free.JP.mathPlain rfl (by decide +kernel)
set_option maxRecDepth 65536 in
set_option maxHeartbeats 40000000 in
theorem own_rm1_1_r3 (l : Launch) (Z : State) (a0 : Array Value) (hw : ∀ d ∈ tables_1, d.before a0 Z = true) (a1 : Addr) (r1 : Addr) (r3 : Addr) (r0 : Addr) (r5 : Addr) (r4 : Addr) (h0 : Heap) (n0 : Nat) (Z0 : n0 ≤ h0.size) (E_a1 : Exa Z h0 a1 "com/example/imhotep/imhotep/core/Trigger") (F_ordinal_a1 : Fld Z h0 a1 "java/lang/Enum" "ordinal" "I" (.int (1 : Int32))) (S_RUNNING : Sta Z h0 "com/example/imhotep/imhotep/core/TaskState" "RUNNING" "Lcom/example/imhotep/imhotep/core/TaskState;" (.ref r1)) (S_REVIEW : Sta Z h0 "com/example/imhotep/imhotep/core/TaskState" "REVIEW" "Lcom/example/imhotep/imhotep/core/TaskState;" (.ref r3)) (S_PENDING : Sta Z h0 "com/example/imhotep/imhotep/core/TaskState" "PENDING" "Lcom/example/imhotep/imhotep/core/TaskState;" (.ref r0)) (S_FAILED : Sta Z h0 "com/example/imhotep/imhotep/core/TaskState" "FAILED" "Lcom/example/imhotep/imhotep/core/TaskState;" (.ref r5)) (S_DONE : Sta Z h0 "com/example/imhotep/imhotep/core/TaskState" "DONE" "Lcom/example/imhotep/imhotep/core/TaskState;" (.ref r4)) (E_r1 : Exa Z h0 r1 "com/example/imhotep/imhotep/core/TaskState") (E_r3 : Exa Z h0 r3 "com/example/imhotep/imhotep/core/TaskState") (ne_r1_r3 : r1 ≠ r3) (ne_r1_r0 : r1 ≠ r0) (ne_r1_r5 : r1 ≠ r5) (ne_r1_r4 : r1 ≠ r4) (ne_r3_r0 : r3 ≠ r0) (ne_r3_r5 : r3 ≠ r5) (ne_r3_r4 : r3 ≠ r4) :
    OwnMet l Z (⟨"com/example/imhotep/imhotep/core/Trigger", "allows", "(Lcom/example/imhotep/imhotep/core/TaskState;Lcom/example/imhotep/imhotep/core/TaskState;)Z"⟩ : MethodName) prog_36_method_6_code 3 (some .boolean) ({ frames := 2, cells := 0, slots := 0, locals := 40 } : Room) #[(.ref a1), (.ref r3), (.ref r1)] h0 n0 (fun v h => v = some (.int (0 : Int32)) ∧ h0 = h) := by
  refine own_body own_pn1_1_r3 ?_
  intro p e s m below meth c s₁ RR X0
  refine own_enter (own_ef1_1_r3 m a1 r3 r1) ?_
  refine own_aloadN X0 own_d1_0 (pc' := 1) rfl rfl rfl ?_
  refine own_callU (a := a1) (argsL := []) X0 own_d1_1 (y := (⟨"com/example/imhotep/imhotep/core/Trigger", "ordinal", "()I"⟩ : MethodName)) (z := (⟨"java/lang/Enum", "ordinal", "()I"⟩ : MethodName)) (by decide) (hw _ (List.mem_of_getElem? (i := 35) rfl)) (hw _ (List.mem_of_getElem? (i := 36) rfl)) (hw _ (List.mem_of_getElem? (i := 37) rfl)) (hw _ (List.mem_of_getElem? (i := 39) rfl)) (hw _ (List.mem_of_getElem? (i := 38) rfl)) (hw _ (List.mem_of_getElem? (i := 41) rfl)) (hw _ (List.mem_of_getElem? (i := 40) rfl)) E_a1 (own_rm2 l Z a0 hw a1 (1 : Int32) h0 n0 Z0 F_ordinal_a1) own_pd1 rfl (S := []) rfl (pc' := 4) rfl rfl (W := 0) (Nat.le_of_eq rfl) (by decide) (by decide) (by decide) (by decide) ?_
  intro T1 h1 v1_ X1 q1_
  obtain ⟨rfl, rfl⟩ := q1_
  show OwnGo p e below (T1.setTop (mkF m 4 #[.val (.ref a1), .val (.ref r3), .val (.ref r1)] [(.int (1 : Int32))])) RR
  refine own_tsw X1 own_d1_4 (o := 85) (by decide) rfl (pc' := 89) (by decide) (by decide) ?_
  refine own_aloadN X1 own_d1_89 (pc' := 90) rfl rfl rfl ?_
  refine own_getS X1 own_d1_90 (hw _ (List.mem_of_getElem? (i := 61) rfl)) Via.refl S_PENDING (pc' := 93) rfl ?_
  intro T2 X2
  refine own_acY X2 own_d1_93 (own_feqA ((ne_r3_r0 : ¬ (r3 = r0)))).2 (pc' := 107) (by decide) (by decide) ?_
  refine own_iconst X2 own_d1_107 (pc' := 108) rfl (v := (0 : Int32)) (by decide) ?_
  refine own_goto X2 own_d1_108 (pc' := 213) (by decide) (by decide) ?_
  exact own_retZ X2 own_d1_213 (by decide) ⟨rfl, rfl⟩ (by decide) (by decide)
theorem own_pd2 : parseMethodDescriptor "(Lcom/example/imhotep/imhotep/core/TaskState;Lcom/example/imhotep/imhotep/core/TaskState;)Z" = some ⟨[(.object "com/example/imhotep/imhotep/core/TaskState"), (.object "com/example/imhotep/imhotep/core/TaskState")], some .boolean⟩ := by decide +kernel
theorem own_ef1_2_r1 (m : MethodId) (x0 : Addr) (x1 : Addr) (x2 : Addr) : entryFrame m #[(.ref x0), (.ref x1), (.ref x2)] 3 = mkF m 0 #[.val (.ref x0), .val (.ref x1), .val (.ref x2)] [] := by first | (simp [entryFrame, mkF, argsToLocals, Value.category]; done) | rfl
theorem own_pn1_2_r1 : plainFor (⟨"com/example/imhotep/imhotep/core/Trigger", "allows", "(Lcom/example/imhotep/imhotep/core/TaskState;Lcom/example/imhotep/imhotep/core/TaskState;)Z"⟩ : MethodName) = true := by first | exact plainFor_of_name (by first | (simp [plainName, overriddenIn]; done) | decide +kernel) | exact Jvm.Free.JP.mathPlain rfl (by decide +kernel)
set_option maxRecDepth 65536 in
set_option maxHeartbeats 40000000 in
theorem own_rm1_2_r1 (l : Launch) (Z : State) (a0 : Array Value) (hw : ∀ d ∈ tables_1, d.before a0 Z = true) (a1 : Addr) (r1 : Addr) (r3 : Addr) (r0 : Addr) (r5 : Addr) (r4 : Addr) (h0 : Heap) (n0 : Nat) (Z0 : n0 ≤ h0.size) (E_a1 : Exa Z h0 a1 "com/example/imhotep/imhotep/core/Trigger") (F_ordinal_a1 : Fld Z h0 a1 "java/lang/Enum" "ordinal" "I" (.int (2 : Int32))) (S_RUNNING : Sta Z h0 "com/example/imhotep/imhotep/core/TaskState" "RUNNING" "Lcom/example/imhotep/imhotep/core/TaskState;" (.ref r1)) (S_REVIEW : Sta Z h0 "com/example/imhotep/imhotep/core/TaskState" "REVIEW" "Lcom/example/imhotep/imhotep/core/TaskState;" (.ref r3)) (S_PENDING : Sta Z h0 "com/example/imhotep/imhotep/core/TaskState" "PENDING" "Lcom/example/imhotep/imhotep/core/TaskState;" (.ref r0)) (S_FAILED : Sta Z h0 "com/example/imhotep/imhotep/core/TaskState" "FAILED" "Lcom/example/imhotep/imhotep/core/TaskState;" (.ref r5)) (S_DONE : Sta Z h0 "com/example/imhotep/imhotep/core/TaskState" "DONE" "Lcom/example/imhotep/imhotep/core/TaskState;" (.ref r4)) (E_r1 : Exa Z h0 r1 "com/example/imhotep/imhotep/core/TaskState") (E_r3 : Exa Z h0 r3 "com/example/imhotep/imhotep/core/TaskState") (ne_r1_r3 : r1 ≠ r3) (ne_r1_r0 : r1 ≠ r0) (ne_r1_r5 : r1 ≠ r5) (ne_r1_r4 : r1 ≠ r4) (ne_r3_r0 : r3 ≠ r0) (ne_r3_r5 : r3 ≠ r5) (ne_r3_r4 : r3 ≠ r4) :
    OwnMet l Z (⟨"com/example/imhotep/imhotep/core/Trigger", "allows", "(Lcom/example/imhotep/imhotep/core/TaskState;Lcom/example/imhotep/imhotep/core/TaskState;)Z"⟩ : MethodName) prog_36_method_6_code 3 (some .boolean) ({ frames := 2, cells := 0, slots := 0, locals := 40 } : Room) #[(.ref a1), (.ref r1), (.ref r3)] h0 n0 (fun v h => v = some (.int (0 : Int32)) ∧ h0 = h) := by
  refine own_body own_pn1_2_r1 ?_
  intro p e s m below meth c s₁ RR X0
  refine own_enter (own_ef1_2_r1 m a1 r1 r3) ?_
  refine own_aloadN X0 own_d1_0 (pc' := 1) rfl rfl rfl ?_
  refine own_callU (a := a1) (argsL := []) X0 own_d1_1 (y := (⟨"com/example/imhotep/imhotep/core/Trigger", "ordinal", "()I"⟩ : MethodName)) (z := (⟨"java/lang/Enum", "ordinal", "()I"⟩ : MethodName)) (by decide) (hw _ (List.mem_of_getElem? (i := 35) rfl)) (hw _ (List.mem_of_getElem? (i := 36) rfl)) (hw _ (List.mem_of_getElem? (i := 37) rfl)) (hw _ (List.mem_of_getElem? (i := 39) rfl)) (hw _ (List.mem_of_getElem? (i := 38) rfl)) (hw _ (List.mem_of_getElem? (i := 41) rfl)) (hw _ (List.mem_of_getElem? (i := 40) rfl)) E_a1 (own_rm2 l Z a0 hw a1 (2 : Int32) h0 n0 Z0 F_ordinal_a1) own_pd1 rfl (S := []) rfl (pc' := 4) rfl rfl (W := 0) (Nat.le_of_eq rfl) (by decide) (by decide) (by decide) (by decide) ?_
  intro T1 h1 v1_ X1 q1_
  obtain ⟨rfl, rfl⟩ := q1_
  show OwnGo p e below (T1.setTop (mkF m 4 #[.val (.ref a1), .val (.ref r1), .val (.ref r3)] [(.int (2 : Int32))])) RR
  refine own_tsw X1 own_d1_4 (o := 107) (by decide) rfl (pc' := 111) (by decide) (by decide) ?_
  refine own_aloadN X1 own_d1_111 (pc' := 112) rfl rfl rfl ?_
  refine own_getS X1 own_d1_112 (hw _ (List.mem_of_getElem? (i := 66) rfl)) Via.refl S_RUNNING (pc' := 115) rfl ?_
  intro T2 X2
  refine own_acN X2 own_d1_115 (own_teqA ((rfl : r1 = r1))).2 (pc' := 118) rfl ?_
  refine own_aloadN X2 own_d1_118 (pc' := 119) rfl rfl rfl ?_
  refine own_getS X2 own_d1_119 (hw _ (List.mem_of_getElem? (i := 68) rfl)) Via.refl S_DONE (pc' := 122) rfl ?_
  intro T3 X3
  refine own_acN X3 own_d1_122 (own_feqA ((ne_r3_r4 : ¬ (r3 = r4)))).1 (pc' := 125) rfl ?_
  refine own_aloadN X3 own_d1_125 (pc' := 126) rfl rfl rfl ?_
  refine own_aloadN X3 own_d1_126 (pc' := 127) rfl rfl rfl ?_
  refine own_callS (argsL := [(.ref r1), (.ref r3)]) X3 own_d1_127 (y := (⟨"com/example/imhotep/imhotep/core/Trigger", "failsHeld", "(Lcom/example/imhotep/imhotep/core/TaskState;Lcom/example/imhotep/imhotep/core/TaskState;)Z"⟩ : MethodName)) (by decide) (hw _ (List.mem_of_getElem? (i := 52) rfl)) (hw _ (List.mem_of_getElem? (i := 53) rfl)) (hw _ (List.mem_of_getElem? (i := 54) rfl)) (hw _ (List.mem_of_getElem? (i := 3) rfl)) (own_rm4_r1 l Z a0 hw r1 r3 r0 r5 r4 h0 n0 Z0 S_RUNNING S_REVIEW S_PENDING S_FAILED S_DONE E_r1 E_r3 ne_r1_r3 ne_r1_r0 ne_r1_r5 ne_r1_r4 ne_r3_r0 ne_r3_r5 ne_r3_r4) own_pd2 rfl (S := []) rfl (pc' := 130) rfl rfl (W := 0) (Nat.le_of_eq rfl) (by decide) (by decide) (by decide) (by decide) ?_
  intro T4 h4 v4_ X4 q4_
  obtain ⟨rfl, rfl⟩ := q4_
  show OwnGo p e below (T4.setTop (mkF m 130 #[.val (.ref a1), .val (.ref r1), .val (.ref r3)] [(.int (0 : Int32))])) RR
  refine own_ifY X4 own_d1_130 (teq ((rfl : (0 : Int32) = (0 : Int32)))).1 (pc' := 137) (by decide) (by decide) ?_
  refine own_iconst X4 own_d1_137 (pc' := 138) rfl (v := (0 : Int32)) (by decide) ?_
  refine own_goto X4 own_d1_138 (pc' := 213) (by decide) (by decide) ?_
  exact own_retZ X4 own_d1_213 (by decide) ⟨rfl, rfl⟩ (by decide) (by decide)
theorem own_ef1_2_r3 (m : MethodId) (x0 : Addr) (x1 : Addr) (x2 : Addr) : entryFrame m #[(.ref x0), (.ref x1), (.ref x2)] 3 = mkF m 0 #[.val (.ref x0), .val (.ref x1), .val (.ref x2)] [] := by first | (simp [entryFrame, mkF, argsToLocals, Value.category]; done) | rfl
theorem own_pn1_2_r3 : plainFor (⟨"com/example/imhotep/imhotep/core/Trigger", "allows", "(Lcom/example/imhotep/imhotep/core/TaskState;Lcom/example/imhotep/imhotep/core/TaskState;)Z"⟩ : MethodName) = true := by first | exact plainFor_of_name (by first | (simp [plainName, overriddenIn]; done) | decide +kernel) | exact Jvm.Free.JP.mathPlain rfl (by decide +kernel)
set_option maxRecDepth 65536 in
set_option maxHeartbeats 40000000 in
theorem own_rm1_2_r3 (l : Launch) (Z : State) (a0 : Array Value) (hw : ∀ d ∈ tables_1, d.before a0 Z = true) (a1 : Addr) (r1 : Addr) (r3 : Addr) (r0 : Addr) (r5 : Addr) (r4 : Addr) (h0 : Heap) (n0 : Nat) (Z0 : n0 ≤ h0.size) (E_a1 : Exa Z h0 a1 "com/example/imhotep/imhotep/core/Trigger") (F_ordinal_a1 : Fld Z h0 a1 "java/lang/Enum" "ordinal" "I" (.int (2 : Int32))) (S_RUNNING : Sta Z h0 "com/example/imhotep/imhotep/core/TaskState" "RUNNING" "Lcom/example/imhotep/imhotep/core/TaskState;" (.ref r1)) (S_REVIEW : Sta Z h0 "com/example/imhotep/imhotep/core/TaskState" "REVIEW" "Lcom/example/imhotep/imhotep/core/TaskState;" (.ref r3)) (S_PENDING : Sta Z h0 "com/example/imhotep/imhotep/core/TaskState" "PENDING" "Lcom/example/imhotep/imhotep/core/TaskState;" (.ref r0)) (S_FAILED : Sta Z h0 "com/example/imhotep/imhotep/core/TaskState" "FAILED" "Lcom/example/imhotep/imhotep/core/TaskState;" (.ref r5)) (S_DONE : Sta Z h0 "com/example/imhotep/imhotep/core/TaskState" "DONE" "Lcom/example/imhotep/imhotep/core/TaskState;" (.ref r4)) (E_r1 : Exa Z h0 r1 "com/example/imhotep/imhotep/core/TaskState") (E_r3 : Exa Z h0 r3 "com/example/imhotep/imhotep/core/TaskState") (ne_r1_r3 : r1 ≠ r3) (ne_r1_r0 : r1 ≠ r0) (ne_r1_r5 : r1 ≠ r5) (ne_r1_r4 : r1 ≠ r4) (ne_r3_r0 : r3 ≠ r0) (ne_r3_r5 : r3 ≠ r5) (ne_r3_r4 : r3 ≠ r4) :
    OwnMet l Z (⟨"com/example/imhotep/imhotep/core/Trigger", "allows", "(Lcom/example/imhotep/imhotep/core/TaskState;Lcom/example/imhotep/imhotep/core/TaskState;)Z"⟩ : MethodName) prog_36_method_6_code 3 (some .boolean) ({ frames := 2, cells := 0, slots := 0, locals := 40 } : Room) #[(.ref a1), (.ref r3), (.ref r1)] h0 n0 (fun v h => v = some (.int (0 : Int32)) ∧ h0 = h) := by
  refine own_body own_pn1_2_r3 ?_
  intro p e s m below meth c s₁ RR X0
  refine own_enter (own_ef1_2_r3 m a1 r3 r1) ?_
  refine own_aloadN X0 own_d1_0 (pc' := 1) rfl rfl rfl ?_
  refine own_callU (a := a1) (argsL := []) X0 own_d1_1 (y := (⟨"com/example/imhotep/imhotep/core/Trigger", "ordinal", "()I"⟩ : MethodName)) (z := (⟨"java/lang/Enum", "ordinal", "()I"⟩ : MethodName)) (by decide) (hw _ (List.mem_of_getElem? (i := 35) rfl)) (hw _ (List.mem_of_getElem? (i := 36) rfl)) (hw _ (List.mem_of_getElem? (i := 37) rfl)) (hw _ (List.mem_of_getElem? (i := 39) rfl)) (hw _ (List.mem_of_getElem? (i := 38) rfl)) (hw _ (List.mem_of_getElem? (i := 41) rfl)) (hw _ (List.mem_of_getElem? (i := 40) rfl)) E_a1 (own_rm2 l Z a0 hw a1 (2 : Int32) h0 n0 Z0 F_ordinal_a1) own_pd1 rfl (S := []) rfl (pc' := 4) rfl rfl (W := 0) (Nat.le_of_eq rfl) (by decide) (by decide) (by decide) (by decide) ?_
  intro T1 h1 v1_ X1 q1_
  obtain ⟨rfl, rfl⟩ := q1_
  show OwnGo p e below (T1.setTop (mkF m 4 #[.val (.ref a1), .val (.ref r3), .val (.ref r1)] [(.int (2 : Int32))])) RR
  refine own_tsw X1 own_d1_4 (o := 107) (by decide) rfl (pc' := 111) (by decide) (by decide) ?_
  refine own_aloadN X1 own_d1_111 (pc' := 112) rfl rfl rfl ?_
  refine own_getS X1 own_d1_112 (hw _ (List.mem_of_getElem? (i := 66) rfl)) Via.refl S_RUNNING (pc' := 115) rfl ?_
  intro T2 X2
  refine own_acY X2 own_d1_115 (own_feqA ((ne_r1_r3.symm : ¬ (r3 = r1)))).2 (pc' := 125) (by decide) (by decide) ?_
  refine own_aloadN X2 own_d1_125 (pc' := 126) rfl rfl rfl ?_
  refine own_aloadN X2 own_d1_126 (pc' := 127) rfl rfl rfl ?_
  refine own_callS (argsL := [(.ref r3), (.ref r1)]) X2 own_d1_127 (y := (⟨"com/example/imhotep/imhotep/core/Trigger", "failsHeld", "(Lcom/example/imhotep/imhotep/core/TaskState;Lcom/example/imhotep/imhotep/core/TaskState;)Z"⟩ : MethodName)) (by decide) (hw _ (List.mem_of_getElem? (i := 52) rfl)) (hw _ (List.mem_of_getElem? (i := 53) rfl)) (hw _ (List.mem_of_getElem? (i := 54) rfl)) (hw _ (List.mem_of_getElem? (i := 3) rfl)) (own_rm4_r3 l Z a0 hw r1 r3 r0 r5 r4 h0 n0 Z0 S_RUNNING S_REVIEW S_PENDING S_FAILED S_DONE E_r1 E_r3 ne_r1_r3 ne_r1_r0 ne_r1_r5 ne_r1_r4 ne_r3_r0 ne_r3_r5 ne_r3_r4) own_pd2 rfl (S := []) rfl (pc' := 130) rfl rfl (W := 0) (Nat.le_of_eq rfl) (by decide) (by decide) (by decide) (by decide) ?_
  intro T3 h3 v3_ X3 q3_
  obtain ⟨rfl, rfl⟩ := q3_
  show OwnGo p e below (T3.setTop (mkF m 130 #[.val (.ref a1), .val (.ref r3), .val (.ref r1)] [(.int (0 : Int32))])) RR
  refine own_ifY X3 own_d1_130 (teq ((rfl : (0 : Int32) = (0 : Int32)))).1 (pc' := 137) (by decide) (by decide) ?_
  refine own_iconst X3 own_d1_137 (pc' := 138) rfl (v := (0 : Int32)) (by decide) ?_
  refine own_goto X3 own_d1_138 (pc' := 213) (by decide) (by decide) ?_
  exact own_retZ X3 own_d1_213 (by decide) ⟨rfl, rfl⟩ (by decide) (by decide)
theorem own_ef1_3_r1 (m : MethodId) (x0 : Addr) (x1 : Addr) (x2 : Addr) : entryFrame m #[(.ref x0), (.ref x1), (.ref x2)] 3 = mkF m 0 #[.val (.ref x0), .val (.ref x1), .val (.ref x2)] [] := by first | (simp [entryFrame, mkF, argsToLocals, Value.category]; done) | rfl
theorem own_pn1_3_r1 : plainFor (⟨"com/example/imhotep/imhotep/core/Trigger", "allows", "(Lcom/example/imhotep/imhotep/core/TaskState;Lcom/example/imhotep/imhotep/core/TaskState;)Z"⟩ : MethodName) = true := by first | exact plainFor_of_name (by first | (simp [plainName, overriddenIn]; done) | decide +kernel) | exact Jvm.Free.JP.mathPlain rfl (by decide +kernel)
set_option maxRecDepth 65536 in
set_option maxHeartbeats 40000000 in
theorem own_rm1_3_r1 (l : Launch) (Z : State) (a0 : Array Value) (hw : ∀ d ∈ tables_1, d.before a0 Z = true) (a1 : Addr) (r1 : Addr) (r3 : Addr) (r0 : Addr) (r5 : Addr) (r4 : Addr) (h0 : Heap) (n0 : Nat) (Z0 : n0 ≤ h0.size) (E_a1 : Exa Z h0 a1 "com/example/imhotep/imhotep/core/Trigger") (F_ordinal_a1 : Fld Z h0 a1 "java/lang/Enum" "ordinal" "I" (.int (3 : Int32))) (S_RUNNING : Sta Z h0 "com/example/imhotep/imhotep/core/TaskState" "RUNNING" "Lcom/example/imhotep/imhotep/core/TaskState;" (.ref r1)) (S_REVIEW : Sta Z h0 "com/example/imhotep/imhotep/core/TaskState" "REVIEW" "Lcom/example/imhotep/imhotep/core/TaskState;" (.ref r3)) (S_PENDING : Sta Z h0 "com/example/imhotep/imhotep/core/TaskState" "PENDING" "Lcom/example/imhotep/imhotep/core/TaskState;" (.ref r0)) (S_FAILED : Sta Z h0 "com/example/imhotep/imhotep/core/TaskState" "FAILED" "Lcom/example/imhotep/imhotep/core/TaskState;" (.ref r5)) (S_DONE : Sta Z h0 "com/example/imhotep/imhotep/core/TaskState" "DONE" "Lcom/example/imhotep/imhotep/core/TaskState;" (.ref r4)) (E_r1 : Exa Z h0 r1 "com/example/imhotep/imhotep/core/TaskState") (E_r3 : Exa Z h0 r3 "com/example/imhotep/imhotep/core/TaskState") (ne_r1_r3 : r1 ≠ r3) (ne_r1_r0 : r1 ≠ r0) (ne_r1_r5 : r1 ≠ r5) (ne_r1_r4 : r1 ≠ r4) (ne_r3_r0 : r3 ≠ r0) (ne_r3_r5 : r3 ≠ r5) (ne_r3_r4 : r3 ≠ r4) :
    OwnMet l Z (⟨"com/example/imhotep/imhotep/core/Trigger", "allows", "(Lcom/example/imhotep/imhotep/core/TaskState;Lcom/example/imhotep/imhotep/core/TaskState;)Z"⟩ : MethodName) prog_36_method_6_code 3 (some .boolean) ({ frames := 2, cells := 0, slots := 0, locals := 40 } : Room) #[(.ref a1), (.ref r1), (.ref r3)] h0 n0 (fun v h => v = some (.int (0 : Int32)) ∧ h0 = h) := by
  refine own_body own_pn1_3_r1 ?_
  intro p e s m below meth c s₁ RR X0
  refine own_enter (own_ef1_3_r1 m a1 r1 r3) ?_
  refine own_aloadN X0 own_d1_0 (pc' := 1) rfl rfl rfl ?_
  refine own_callU (a := a1) (argsL := []) X0 own_d1_1 (y := (⟨"com/example/imhotep/imhotep/core/Trigger", "ordinal", "()I"⟩ : MethodName)) (z := (⟨"java/lang/Enum", "ordinal", "()I"⟩ : MethodName)) (by decide) (hw _ (List.mem_of_getElem? (i := 35) rfl)) (hw _ (List.mem_of_getElem? (i := 36) rfl)) (hw _ (List.mem_of_getElem? (i := 37) rfl)) (hw _ (List.mem_of_getElem? (i := 39) rfl)) (hw _ (List.mem_of_getElem? (i := 38) rfl)) (hw _ (List.mem_of_getElem? (i := 41) rfl)) (hw _ (List.mem_of_getElem? (i := 40) rfl)) E_a1 (own_rm2 l Z a0 hw a1 (3 : Int32) h0 n0 Z0 F_ordinal_a1) own_pd1 rfl (S := []) rfl (pc' := 4) rfl rfl (W := 0) (Nat.le_of_eq rfl) (by decide) (by decide) (by decide) (by decide) ?_
  intro T1 h1 v1_ X1 q1_
  obtain ⟨rfl, rfl⟩ := q1_
  show OwnGo p e below (T1.setTop (mkF m 4 #[.val (.ref a1), .val (.ref r1), .val (.ref r3)] [(.int (3 : Int32))])) RR
  refine own_tsw X1 own_d1_4 (o := 137) (by decide) rfl (pc' := 141) (by decide) (by decide) ?_
  refine own_aloadN X1 own_d1_141 (pc' := 142) rfl rfl rfl ?_
  refine own_aloadN X1 own_d1_142 (pc' := 143) rfl rfl rfl ?_
  refine own_callS (argsL := [(.ref r1), (.ref r3)]) X1 own_d1_143 (y := (⟨"com/example/imhotep/imhotep/core/Trigger", "failsHeld", "(Lcom/example/imhotep/imhotep/core/TaskState;Lcom/example/imhotep/imhotep/core/TaskState;)Z"⟩ : MethodName)) (by decide) (hw _ (List.mem_of_getElem? (i := 52) rfl)) (hw _ (List.mem_of_getElem? (i := 53) rfl)) (hw _ (List.mem_of_getElem? (i := 54) rfl)) (hw _ (List.mem_of_getElem? (i := 3) rfl)) (own_rm4_r1 l Z a0 hw r1 r3 r0 r5 r4 h0 n0 Z0 S_RUNNING S_REVIEW S_PENDING S_FAILED S_DONE E_r1 E_r3 ne_r1_r3 ne_r1_r0 ne_r1_r5 ne_r1_r4 ne_r3_r0 ne_r3_r5 ne_r3_r4) own_pd2 rfl (S := []) rfl (pc' := 146) rfl rfl (W := 0) (Nat.le_of_eq rfl) (by decide) (by decide) (by decide) (by decide) ?_
  intro T2 h2 v2_ X2 q2_
  obtain ⟨rfl, rfl⟩ := q2_
  show OwnGo p e below (T2.setTop (mkF m 146 #[.val (.ref a1), .val (.ref r1), .val (.ref r3)] [(.int (0 : Int32))])) RR
  refine own_goto X2 own_d1_146 (pc' := 213) (by decide) (by decide) ?_
  exact own_retZ X2 own_d1_213 (by decide) ⟨rfl, rfl⟩ (by decide) (by decide)
theorem own_ef1_3_r3 (m : MethodId) (x0 : Addr) (x1 : Addr) (x2 : Addr) : entryFrame m #[(.ref x0), (.ref x1), (.ref x2)] 3 = mkF m 0 #[.val (.ref x0), .val (.ref x1), .val (.ref x2)] [] := by first | (simp [entryFrame, mkF, argsToLocals, Value.category]; done) | rfl
theorem own_pn1_3_r3 : plainFor (⟨"com/example/imhotep/imhotep/core/Trigger", "allows", "(Lcom/example/imhotep/imhotep/core/TaskState;Lcom/example/imhotep/imhotep/core/TaskState;)Z"⟩ : MethodName) = true := by first | exact plainFor_of_name (by first | (simp [plainName, overriddenIn]; done) | decide +kernel) | exact Jvm.Free.JP.mathPlain rfl (by decide +kernel)
set_option maxRecDepth 65536 in
set_option maxHeartbeats 40000000 in
theorem own_rm1_3_r3 (l : Launch) (Z : State) (a0 : Array Value) (hw : ∀ d ∈ tables_1, d.before a0 Z = true) (a1 : Addr) (r1 : Addr) (r3 : Addr) (r0 : Addr) (r5 : Addr) (r4 : Addr) (h0 : Heap) (n0 : Nat) (Z0 : n0 ≤ h0.size) (E_a1 : Exa Z h0 a1 "com/example/imhotep/imhotep/core/Trigger") (F_ordinal_a1 : Fld Z h0 a1 "java/lang/Enum" "ordinal" "I" (.int (3 : Int32))) (S_RUNNING : Sta Z h0 "com/example/imhotep/imhotep/core/TaskState" "RUNNING" "Lcom/example/imhotep/imhotep/core/TaskState;" (.ref r1)) (S_REVIEW : Sta Z h0 "com/example/imhotep/imhotep/core/TaskState" "REVIEW" "Lcom/example/imhotep/imhotep/core/TaskState;" (.ref r3)) (S_PENDING : Sta Z h0 "com/example/imhotep/imhotep/core/TaskState" "PENDING" "Lcom/example/imhotep/imhotep/core/TaskState;" (.ref r0)) (S_FAILED : Sta Z h0 "com/example/imhotep/imhotep/core/TaskState" "FAILED" "Lcom/example/imhotep/imhotep/core/TaskState;" (.ref r5)) (S_DONE : Sta Z h0 "com/example/imhotep/imhotep/core/TaskState" "DONE" "Lcom/example/imhotep/imhotep/core/TaskState;" (.ref r4)) (E_r1 : Exa Z h0 r1 "com/example/imhotep/imhotep/core/TaskState") (E_r3 : Exa Z h0 r3 "com/example/imhotep/imhotep/core/TaskState") (ne_r1_r3 : r1 ≠ r3) (ne_r1_r0 : r1 ≠ r0) (ne_r1_r5 : r1 ≠ r5) (ne_r1_r4 : r1 ≠ r4) (ne_r3_r0 : r3 ≠ r0) (ne_r3_r5 : r3 ≠ r5) (ne_r3_r4 : r3 ≠ r4) :
    OwnMet l Z (⟨"com/example/imhotep/imhotep/core/Trigger", "allows", "(Lcom/example/imhotep/imhotep/core/TaskState;Lcom/example/imhotep/imhotep/core/TaskState;)Z"⟩ : MethodName) prog_36_method_6_code 3 (some .boolean) ({ frames := 2, cells := 0, slots := 0, locals := 40 } : Room) #[(.ref a1), (.ref r3), (.ref r1)] h0 n0 (fun v h => v = some (.int (0 : Int32)) ∧ h0 = h) := by
  refine own_body own_pn1_3_r3 ?_
  intro p e s m below meth c s₁ RR X0
  refine own_enter (own_ef1_3_r3 m a1 r3 r1) ?_
  refine own_aloadN X0 own_d1_0 (pc' := 1) rfl rfl rfl ?_
  refine own_callU (a := a1) (argsL := []) X0 own_d1_1 (y := (⟨"com/example/imhotep/imhotep/core/Trigger", "ordinal", "()I"⟩ : MethodName)) (z := (⟨"java/lang/Enum", "ordinal", "()I"⟩ : MethodName)) (by decide) (hw _ (List.mem_of_getElem? (i := 35) rfl)) (hw _ (List.mem_of_getElem? (i := 36) rfl)) (hw _ (List.mem_of_getElem? (i := 37) rfl)) (hw _ (List.mem_of_getElem? (i := 39) rfl)) (hw _ (List.mem_of_getElem? (i := 38) rfl)) (hw _ (List.mem_of_getElem? (i := 41) rfl)) (hw _ (List.mem_of_getElem? (i := 40) rfl)) E_a1 (own_rm2 l Z a0 hw a1 (3 : Int32) h0 n0 Z0 F_ordinal_a1) own_pd1 rfl (S := []) rfl (pc' := 4) rfl rfl (W := 0) (Nat.le_of_eq rfl) (by decide) (by decide) (by decide) (by decide) ?_
  intro T1 h1 v1_ X1 q1_
  obtain ⟨rfl, rfl⟩ := q1_
  show OwnGo p e below (T1.setTop (mkF m 4 #[.val (.ref a1), .val (.ref r3), .val (.ref r1)] [(.int (3 : Int32))])) RR
  refine own_tsw X1 own_d1_4 (o := 137) (by decide) rfl (pc' := 141) (by decide) (by decide) ?_
  refine own_aloadN X1 own_d1_141 (pc' := 142) rfl rfl rfl ?_
  refine own_aloadN X1 own_d1_142 (pc' := 143) rfl rfl rfl ?_
  refine own_callS (argsL := [(.ref r3), (.ref r1)]) X1 own_d1_143 (y := (⟨"com/example/imhotep/imhotep/core/Trigger", "failsHeld", "(Lcom/example/imhotep/imhotep/core/TaskState;Lcom/example/imhotep/imhotep/core/TaskState;)Z"⟩ : MethodName)) (by decide) (hw _ (List.mem_of_getElem? (i := 52) rfl)) (hw _ (List.mem_of_getElem? (i := 53) rfl)) (hw _ (List.mem_of_getElem? (i := 54) rfl)) (hw _ (List.mem_of_getElem? (i := 3) rfl)) (own_rm4_r3 l Z a0 hw r1 r3 r0 r5 r4 h0 n0 Z0 S_RUNNING S_REVIEW S_PENDING S_FAILED S_DONE E_r1 E_r3 ne_r1_r3 ne_r1_r0 ne_r1_r5 ne_r1_r4 ne_r3_r0 ne_r3_r5 ne_r3_r4) own_pd2 rfl (S := []) rfl (pc' := 146) rfl rfl (W := 0) (Nat.le_of_eq rfl) (by decide) (by decide) (by decide) (by decide) ?_
  intro T2 h2 v2_ X2 q2_
  obtain ⟨rfl, rfl⟩ := q2_
  show OwnGo p e below (T2.setTop (mkF m 146 #[.val (.ref a1), .val (.ref r3), .val (.ref r1)] [(.int (0 : Int32))])) RR
  refine own_goto X2 own_d1_146 (pc' := 213) (by decide) (by decide) ?_
  exact own_retZ X2 own_d1_213 (by decide) ⟨rfl, rfl⟩ (by decide) (by decide)
theorem own_ef1_4_r1 (m : MethodId) (x0 : Addr) (x1 : Addr) (x2 : Addr) : entryFrame m #[(.ref x0), (.ref x1), (.ref x2)] 3 = mkF m 0 #[.val (.ref x0), .val (.ref x1), .val (.ref x2)] [] := by first | (simp [entryFrame, mkF, argsToLocals, Value.category]; done) | rfl
theorem own_pn1_4_r1 : plainFor (⟨"com/example/imhotep/imhotep/core/Trigger", "allows", "(Lcom/example/imhotep/imhotep/core/TaskState;Lcom/example/imhotep/imhotep/core/TaskState;)Z"⟩ : MethodName) = true := by first | exact plainFor_of_name (by first | (simp [plainName, overriddenIn]; done) | decide +kernel) | exact Jvm.Free.JP.mathPlain rfl (by decide +kernel)
set_option maxRecDepth 65536 in
set_option maxHeartbeats 40000000 in
theorem own_rm1_4_r1 (l : Launch) (Z : State) (a0 : Array Value) (hw : ∀ d ∈ tables_1, d.before a0 Z = true) (a1 : Addr) (r1 : Addr) (r3 : Addr) (r0 : Addr) (r5 : Addr) (r4 : Addr) (h0 : Heap) (n0 : Nat) (Z0 : n0 ≤ h0.size) (E_a1 : Exa Z h0 a1 "com/example/imhotep/imhotep/core/Trigger") (F_ordinal_a1 : Fld Z h0 a1 "java/lang/Enum" "ordinal" "I" (.int (4 : Int32))) (S_RUNNING : Sta Z h0 "com/example/imhotep/imhotep/core/TaskState" "RUNNING" "Lcom/example/imhotep/imhotep/core/TaskState;" (.ref r1)) (S_REVIEW : Sta Z h0 "com/example/imhotep/imhotep/core/TaskState" "REVIEW" "Lcom/example/imhotep/imhotep/core/TaskState;" (.ref r3)) (S_PENDING : Sta Z h0 "com/example/imhotep/imhotep/core/TaskState" "PENDING" "Lcom/example/imhotep/imhotep/core/TaskState;" (.ref r0)) (S_FAILED : Sta Z h0 "com/example/imhotep/imhotep/core/TaskState" "FAILED" "Lcom/example/imhotep/imhotep/core/TaskState;" (.ref r5)) (S_DONE : Sta Z h0 "com/example/imhotep/imhotep/core/TaskState" "DONE" "Lcom/example/imhotep/imhotep/core/TaskState;" (.ref r4)) (E_r1 : Exa Z h0 r1 "com/example/imhotep/imhotep/core/TaskState") (E_r3 : Exa Z h0 r3 "com/example/imhotep/imhotep/core/TaskState") (ne_r1_r3 : r1 ≠ r3) (ne_r1_r0 : r1 ≠ r0) (ne_r1_r5 : r1 ≠ r5) (ne_r1_r4 : r1 ≠ r4) (ne_r3_r0 : r3 ≠ r0) (ne_r3_r5 : r3 ≠ r5) (ne_r3_r4 : r3 ≠ r4) :
    OwnMet l Z (⟨"com/example/imhotep/imhotep/core/Trigger", "allows", "(Lcom/example/imhotep/imhotep/core/TaskState;Lcom/example/imhotep/imhotep/core/TaskState;)Z"⟩ : MethodName) prog_36_method_6_code 3 (some .boolean) ({ frames := 2, cells := 0, slots := 0, locals := 40 } : Room) #[(.ref a1), (.ref r1), (.ref r3)] h0 n0 (fun v h => v = some (.int (0 : Int32)) ∧ h0 = h) := by
  refine own_body own_pn1_4_r1 ?_
  intro p e s m below meth c s₁ RR X0
  refine own_enter (own_ef1_4_r1 m a1 r1 r3) ?_
  refine own_aloadN X0 own_d1_0 (pc' := 1) rfl rfl rfl ?_
  refine own_callU (a := a1) (argsL := []) X0 own_d1_1 (y := (⟨"com/example/imhotep/imhotep/core/Trigger", "ordinal", "()I"⟩ : MethodName)) (z := (⟨"java/lang/Enum", "ordinal", "()I"⟩ : MethodName)) (by decide) (hw _ (List.mem_of_getElem? (i := 35) rfl)) (hw _ (List.mem_of_getElem? (i := 36) rfl)) (hw _ (List.mem_of_getElem? (i := 37) rfl)) (hw _ (List.mem_of_getElem? (i := 39) rfl)) (hw _ (List.mem_of_getElem? (i := 38) rfl)) (hw _ (List.mem_of_getElem? (i := 41) rfl)) (hw _ (List.mem_of_getElem? (i := 40) rfl)) E_a1 (own_rm2 l Z a0 hw a1 (4 : Int32) h0 n0 Z0 F_ordinal_a1) own_pd1 rfl (S := []) rfl (pc' := 4) rfl rfl (W := 0) (Nat.le_of_eq rfl) (by decide) (by decide) (by decide) (by decide) ?_
  intro T1 h1 v1_ X1 q1_
  obtain ⟨rfl, rfl⟩ := q1_
  show OwnGo p e below (T1.setTop (mkF m 4 #[.val (.ref a1), .val (.ref r1), .val (.ref r3)] [(.int (4 : Int32))])) RR
  refine own_tsw X1 own_d1_4 (o := 137) (by decide) rfl (pc' := 141) (by decide) (by decide) ?_
  refine own_aloadN X1 own_d1_141 (pc' := 142) rfl rfl rfl ?_
  refine own_aloadN X1 own_d1_142 (pc' := 143) rfl rfl rfl ?_
  refine own_callS (argsL := [(.ref r1), (.ref r3)]) X1 own_d1_143 (y := (⟨"com/example/imhotep/imhotep/core/Trigger", "failsHeld", "(Lcom/example/imhotep/imhotep/core/TaskState;Lcom/example/imhotep/imhotep/core/TaskState;)Z"⟩ : MethodName)) (by decide) (hw _ (List.mem_of_getElem? (i := 52) rfl)) (hw _ (List.mem_of_getElem? (i := 53) rfl)) (hw _ (List.mem_of_getElem? (i := 54) rfl)) (hw _ (List.mem_of_getElem? (i := 3) rfl)) (own_rm4_r1 l Z a0 hw r1 r3 r0 r5 r4 h0 n0 Z0 S_RUNNING S_REVIEW S_PENDING S_FAILED S_DONE E_r1 E_r3 ne_r1_r3 ne_r1_r0 ne_r1_r5 ne_r1_r4 ne_r3_r0 ne_r3_r5 ne_r3_r4) own_pd2 rfl (S := []) rfl (pc' := 146) rfl rfl (W := 0) (Nat.le_of_eq rfl) (by decide) (by decide) (by decide) (by decide) ?_
  intro T2 h2 v2_ X2 q2_
  obtain ⟨rfl, rfl⟩ := q2_
  show OwnGo p e below (T2.setTop (mkF m 146 #[.val (.ref a1), .val (.ref r1), .val (.ref r3)] [(.int (0 : Int32))])) RR
  refine own_goto X2 own_d1_146 (pc' := 213) (by decide) (by decide) ?_
  exact own_retZ X2 own_d1_213 (by decide) ⟨rfl, rfl⟩ (by decide) (by decide)
theorem own_ef1_4_r3 (m : MethodId) (x0 : Addr) (x1 : Addr) (x2 : Addr) : entryFrame m #[(.ref x0), (.ref x1), (.ref x2)] 3 = mkF m 0 #[.val (.ref x0), .val (.ref x1), .val (.ref x2)] [] := by first | (simp [entryFrame, mkF, argsToLocals, Value.category]; done) | rfl
theorem own_pn1_4_r3 : plainFor (⟨"com/example/imhotep/imhotep/core/Trigger", "allows", "(Lcom/example/imhotep/imhotep/core/TaskState;Lcom/example/imhotep/imhotep/core/TaskState;)Z"⟩ : MethodName) = true := by first | exact plainFor_of_name (by first | (simp [plainName, overriddenIn]; done) | decide +kernel) | exact Jvm.Free.JP.mathPlain rfl (by decide +kernel)
set_option maxRecDepth 65536 in
set_option maxHeartbeats 40000000 in
theorem own_rm1_4_r3 (l : Launch) (Z : State) (a0 : Array Value) (hw : ∀ d ∈ tables_1, d.before a0 Z = true) (a1 : Addr) (r1 : Addr) (r3 : Addr) (r0 : Addr) (r5 : Addr) (r4 : Addr) (h0 : Heap) (n0 : Nat) (Z0 : n0 ≤ h0.size) (E_a1 : Exa Z h0 a1 "com/example/imhotep/imhotep/core/Trigger") (F_ordinal_a1 : Fld Z h0 a1 "java/lang/Enum" "ordinal" "I" (.int (4 : Int32))) (S_RUNNING : Sta Z h0 "com/example/imhotep/imhotep/core/TaskState" "RUNNING" "Lcom/example/imhotep/imhotep/core/TaskState;" (.ref r1)) (S_REVIEW : Sta Z h0 "com/example/imhotep/imhotep/core/TaskState" "REVIEW" "Lcom/example/imhotep/imhotep/core/TaskState;" (.ref r3)) (S_PENDING : Sta Z h0 "com/example/imhotep/imhotep/core/TaskState" "PENDING" "Lcom/example/imhotep/imhotep/core/TaskState;" (.ref r0)) (S_FAILED : Sta Z h0 "com/example/imhotep/imhotep/core/TaskState" "FAILED" "Lcom/example/imhotep/imhotep/core/TaskState;" (.ref r5)) (S_DONE : Sta Z h0 "com/example/imhotep/imhotep/core/TaskState" "DONE" "Lcom/example/imhotep/imhotep/core/TaskState;" (.ref r4)) (E_r1 : Exa Z h0 r1 "com/example/imhotep/imhotep/core/TaskState") (E_r3 : Exa Z h0 r3 "com/example/imhotep/imhotep/core/TaskState") (ne_r1_r3 : r1 ≠ r3) (ne_r1_r0 : r1 ≠ r0) (ne_r1_r5 : r1 ≠ r5) (ne_r1_r4 : r1 ≠ r4) (ne_r3_r0 : r3 ≠ r0) (ne_r3_r5 : r3 ≠ r5) (ne_r3_r4 : r3 ≠ r4) :
    OwnMet l Z (⟨"com/example/imhotep/imhotep/core/Trigger", "allows", "(Lcom/example/imhotep/imhotep/core/TaskState;Lcom/example/imhotep/imhotep/core/TaskState;)Z"⟩ : MethodName) prog_36_method_6_code 3 (some .boolean) ({ frames := 2, cells := 0, slots := 0, locals := 40 } : Room) #[(.ref a1), (.ref r3), (.ref r1)] h0 n0 (fun v h => v = some (.int (0 : Int32)) ∧ h0 = h) := by
  refine own_body own_pn1_4_r3 ?_
  intro p e s m below meth c s₁ RR X0
  refine own_enter (own_ef1_4_r3 m a1 r3 r1) ?_
  refine own_aloadN X0 own_d1_0 (pc' := 1) rfl rfl rfl ?_
  refine own_callU (a := a1) (argsL := []) X0 own_d1_1 (y := (⟨"com/example/imhotep/imhotep/core/Trigger", "ordinal", "()I"⟩ : MethodName)) (z := (⟨"java/lang/Enum", "ordinal", "()I"⟩ : MethodName)) (by decide) (hw _ (List.mem_of_getElem? (i := 35) rfl)) (hw _ (List.mem_of_getElem? (i := 36) rfl)) (hw _ (List.mem_of_getElem? (i := 37) rfl)) (hw _ (List.mem_of_getElem? (i := 39) rfl)) (hw _ (List.mem_of_getElem? (i := 38) rfl)) (hw _ (List.mem_of_getElem? (i := 41) rfl)) (hw _ (List.mem_of_getElem? (i := 40) rfl)) E_a1 (own_rm2 l Z a0 hw a1 (4 : Int32) h0 n0 Z0 F_ordinal_a1) own_pd1 rfl (S := []) rfl (pc' := 4) rfl rfl (W := 0) (Nat.le_of_eq rfl) (by decide) (by decide) (by decide) (by decide) ?_
  intro T1 h1 v1_ X1 q1_
  obtain ⟨rfl, rfl⟩ := q1_
  show OwnGo p e below (T1.setTop (mkF m 4 #[.val (.ref a1), .val (.ref r3), .val (.ref r1)] [(.int (4 : Int32))])) RR
  refine own_tsw X1 own_d1_4 (o := 137) (by decide) rfl (pc' := 141) (by decide) (by decide) ?_
  refine own_aloadN X1 own_d1_141 (pc' := 142) rfl rfl rfl ?_
  refine own_aloadN X1 own_d1_142 (pc' := 143) rfl rfl rfl ?_
  refine own_callS (argsL := [(.ref r3), (.ref r1)]) X1 own_d1_143 (y := (⟨"com/example/imhotep/imhotep/core/Trigger", "failsHeld", "(Lcom/example/imhotep/imhotep/core/TaskState;Lcom/example/imhotep/imhotep/core/TaskState;)Z"⟩ : MethodName)) (by decide) (hw _ (List.mem_of_getElem? (i := 52) rfl)) (hw _ (List.mem_of_getElem? (i := 53) rfl)) (hw _ (List.mem_of_getElem? (i := 54) rfl)) (hw _ (List.mem_of_getElem? (i := 3) rfl)) (own_rm4_r3 l Z a0 hw r1 r3 r0 r5 r4 h0 n0 Z0 S_RUNNING S_REVIEW S_PENDING S_FAILED S_DONE E_r1 E_r3 ne_r1_r3 ne_r1_r0 ne_r1_r5 ne_r1_r4 ne_r3_r0 ne_r3_r5 ne_r3_r4) own_pd2 rfl (S := []) rfl (pc' := 146) rfl rfl (W := 0) (Nat.le_of_eq rfl) (by decide) (by decide) (by decide) (by decide) ?_
  intro T2 h2 v2_ X2 q2_
  obtain ⟨rfl, rfl⟩ := q2_
  show OwnGo p e below (T2.setTop (mkF m 146 #[.val (.ref a1), .val (.ref r3), .val (.ref r1)] [(.int (0 : Int32))])) RR
  refine own_goto X2 own_d1_146 (pc' := 213) (by decide) (by decide) ?_
  exact own_retZ X2 own_d1_213 (by decide) ⟨rfl, rfl⟩ (by decide) (by decide)
theorem own_ef1_5_r1 (m : MethodId) (x0 : Addr) (x1 : Addr) (x2 : Addr) : entryFrame m #[(.ref x0), (.ref x1), (.ref x2)] 3 = mkF m 0 #[.val (.ref x0), .val (.ref x1), .val (.ref x2)] [] := by first | (simp [entryFrame, mkF, argsToLocals, Value.category]; done) | rfl
theorem own_pn1_5_r1 : plainFor (⟨"com/example/imhotep/imhotep/core/Trigger", "allows", "(Lcom/example/imhotep/imhotep/core/TaskState;Lcom/example/imhotep/imhotep/core/TaskState;)Z"⟩ : MethodName) = true := by first | exact plainFor_of_name (by first | (simp [plainName, overriddenIn]; done) | decide +kernel) | exact Jvm.Free.JP.mathPlain rfl (by decide +kernel)
set_option maxRecDepth 65536 in
set_option maxHeartbeats 40000000 in
theorem own_rm1_5_r1 (l : Launch) (Z : State) (a0 : Array Value) (hw : ∀ d ∈ tables_1, d.before a0 Z = true) (a1 : Addr) (r1 : Addr) (r3 : Addr) (r0 : Addr) (r5 : Addr) (r4 : Addr) (h0 : Heap) (n0 : Nat) (Z0 : n0 ≤ h0.size) (E_a1 : Exa Z h0 a1 "com/example/imhotep/imhotep/core/Trigger") (F_ordinal_a1 : Fld Z h0 a1 "java/lang/Enum" "ordinal" "I" (.int (5 : Int32))) (S_RUNNING : Sta Z h0 "com/example/imhotep/imhotep/core/TaskState" "RUNNING" "Lcom/example/imhotep/imhotep/core/TaskState;" (.ref r1)) (S_REVIEW : Sta Z h0 "com/example/imhotep/imhotep/core/TaskState" "REVIEW" "Lcom/example/imhotep/imhotep/core/TaskState;" (.ref r3)) (S_PENDING : Sta Z h0 "com/example/imhotep/imhotep/core/TaskState" "PENDING" "Lcom/example/imhotep/imhotep/core/TaskState;" (.ref r0)) (S_FAILED : Sta Z h0 "com/example/imhotep/imhotep/core/TaskState" "FAILED" "Lcom/example/imhotep/imhotep/core/TaskState;" (.ref r5)) (S_DONE : Sta Z h0 "com/example/imhotep/imhotep/core/TaskState" "DONE" "Lcom/example/imhotep/imhotep/core/TaskState;" (.ref r4)) (E_r1 : Exa Z h0 r1 "com/example/imhotep/imhotep/core/TaskState") (E_r3 : Exa Z h0 r3 "com/example/imhotep/imhotep/core/TaskState") (ne_r1_r3 : r1 ≠ r3) (ne_r1_r0 : r1 ≠ r0) (ne_r1_r5 : r1 ≠ r5) (ne_r1_r4 : r1 ≠ r4) (ne_r3_r0 : r3 ≠ r0) (ne_r3_r5 : r3 ≠ r5) (ne_r3_r4 : r3 ≠ r4) :
    OwnMet l Z (⟨"com/example/imhotep/imhotep/core/Trigger", "allows", "(Lcom/example/imhotep/imhotep/core/TaskState;Lcom/example/imhotep/imhotep/core/TaskState;)Z"⟩ : MethodName) prog_36_method_6_code 3 (some .boolean) ({ frames := 2, cells := 0, slots := 0, locals := 40 } : Room) #[(.ref a1), (.ref r1), (.ref r3)] h0 n0 (fun v h => v = some (.int (0 : Int32)) ∧ h0 = h) := by
  refine own_body own_pn1_5_r1 ?_
  intro p e s m below meth c s₁ RR X0
  refine own_enter (own_ef1_5_r1 m a1 r1 r3) ?_
  refine own_aloadN X0 own_d1_0 (pc' := 1) rfl rfl rfl ?_
  refine own_callU (a := a1) (argsL := []) X0 own_d1_1 (y := (⟨"com/example/imhotep/imhotep/core/Trigger", "ordinal", "()I"⟩ : MethodName)) (z := (⟨"java/lang/Enum", "ordinal", "()I"⟩ : MethodName)) (by decide) (hw _ (List.mem_of_getElem? (i := 35) rfl)) (hw _ (List.mem_of_getElem? (i := 36) rfl)) (hw _ (List.mem_of_getElem? (i := 37) rfl)) (hw _ (List.mem_of_getElem? (i := 39) rfl)) (hw _ (List.mem_of_getElem? (i := 38) rfl)) (hw _ (List.mem_of_getElem? (i := 41) rfl)) (hw _ (List.mem_of_getElem? (i := 40) rfl)) E_a1 (own_rm2 l Z a0 hw a1 (5 : Int32) h0 n0 Z0 F_ordinal_a1) own_pd1 rfl (S := []) rfl (pc' := 4) rfl rfl (W := 0) (Nat.le_of_eq rfl) (by decide) (by decide) (by decide) (by decide) ?_
  intro T1 h1 v1_ X1 q1_
  obtain ⟨rfl, rfl⟩ := q1_
  show OwnGo p e below (T1.setTop (mkF m 4 #[.val (.ref a1), .val (.ref r1), .val (.ref r3)] [(.int (5 : Int32))])) RR
  refine own_tsw X1 own_d1_4 (o := 145) (by decide) rfl (pc' := 149) (by decide) (by decide) ?_
  refine own_aloadN X1 own_d1_149 (pc' := 150) rfl rfl rfl ?_
  refine own_getS X1 own_d1_150 (hw _ (List.mem_of_getElem? (i := 66) rfl)) Via.refl S_RUNNING (pc' := 153) rfl ?_
  intro T2 X2
  refine own_acN X2 own_d1_153 (own_teqA ((rfl : r1 = r1))).2 (pc' := 156) rfl ?_
  refine own_aloadN X2 own_d1_156 (pc' := 157) rfl rfl rfl ?_
  refine own_aloadN X2 own_d1_157 (pc' := 158) rfl rfl rfl ?_
  refine own_callS (argsL := [(.ref r1), (.ref r3)]) X2 own_d1_158 (y := (⟨"com/example/imhotep/imhotep/core/Trigger", "failsHeld", "(Lcom/example/imhotep/imhotep/core/TaskState;Lcom/example/imhotep/imhotep/core/TaskState;)Z"⟩ : MethodName)) (by decide) (hw _ (List.mem_of_getElem? (i := 52) rfl)) (hw _ (List.mem_of_getElem? (i := 53) rfl)) (hw _ (List.mem_of_getElem? (i := 54) rfl)) (hw _ (List.mem_of_getElem? (i := 3) rfl)) (own_rm4_r1 l Z a0 hw r1 r3 r0 r5 r4 h0 n0 Z0 S_RUNNING S_REVIEW S_PENDING S_FAILED S_DONE E_r1 E_r3 ne_r1_r3 ne_r1_r0 ne_r1_r5 ne_r1_r4 ne_r3_r0 ne_r3_r5 ne_r3_r4) own_pd2 rfl (S := []) rfl (pc' := 161) rfl rfl (W := 0) (Nat.le_of_eq rfl) (by decide) (by decide) (by decide) (by decide) ?_
  intro T3 h3 v3_ X3 q3_
  obtain ⟨rfl, rfl⟩ := q3_
  show OwnGo p e below (T3.setTop (mkF m 161 #[.val (.ref a1), .val (.ref r1), .val (.ref r3)] [(.int (0 : Int32))])) RR
  refine own_ifY X3 own_d1_161 (teq ((rfl : (0 : Int32) = (0 : Int32)))).1 (pc' := 168) (by decide) (by decide) ?_
  refine own_iconst X3 own_d1_168 (pc' := 169) rfl (v := (0 : Int32)) (by decide) ?_
  refine own_goto X3 own_d1_169 (pc' := 213) (by decide) (by decide) ?_
  exact own_retZ X3 own_d1_213 (by decide) ⟨rfl, rfl⟩ (by decide) (by decide)
theorem own_ef1_5_r3 (m : MethodId) (x0 : Addr) (x1 : Addr) (x2 : Addr) : entryFrame m #[(.ref x0), (.ref x1), (.ref x2)] 3 = mkF m 0 #[.val (.ref x0), .val (.ref x1), .val (.ref x2)] [] := by first | (simp [entryFrame, mkF, argsToLocals, Value.category]; done) | rfl
theorem own_pn1_5_r3 : plainFor (⟨"com/example/imhotep/imhotep/core/Trigger", "allows", "(Lcom/example/imhotep/imhotep/core/TaskState;Lcom/example/imhotep/imhotep/core/TaskState;)Z"⟩ : MethodName) = true := by first | exact plainFor_of_name (by first | (simp [plainName, overriddenIn]; done) | decide +kernel) | exact Jvm.Free.JP.mathPlain rfl (by decide +kernel)
set_option maxRecDepth 65536 in
set_option maxHeartbeats 40000000 in
theorem own_rm1_5_r3 (l : Launch) (Z : State) (a0 : Array Value) (hw : ∀ d ∈ tables_1, d.before a0 Z = true) (a1 : Addr) (r1 : Addr) (r3 : Addr) (r0 : Addr) (r5 : Addr) (r4 : Addr) (h0 : Heap) (n0 : Nat) (Z0 : n0 ≤ h0.size) (E_a1 : Exa Z h0 a1 "com/example/imhotep/imhotep/core/Trigger") (F_ordinal_a1 : Fld Z h0 a1 "java/lang/Enum" "ordinal" "I" (.int (5 : Int32))) (S_RUNNING : Sta Z h0 "com/example/imhotep/imhotep/core/TaskState" "RUNNING" "Lcom/example/imhotep/imhotep/core/TaskState;" (.ref r1)) (S_REVIEW : Sta Z h0 "com/example/imhotep/imhotep/core/TaskState" "REVIEW" "Lcom/example/imhotep/imhotep/core/TaskState;" (.ref r3)) (S_PENDING : Sta Z h0 "com/example/imhotep/imhotep/core/TaskState" "PENDING" "Lcom/example/imhotep/imhotep/core/TaskState;" (.ref r0)) (S_FAILED : Sta Z h0 "com/example/imhotep/imhotep/core/TaskState" "FAILED" "Lcom/example/imhotep/imhotep/core/TaskState;" (.ref r5)) (S_DONE : Sta Z h0 "com/example/imhotep/imhotep/core/TaskState" "DONE" "Lcom/example/imhotep/imhotep/core/TaskState;" (.ref r4)) (E_r1 : Exa Z h0 r1 "com/example/imhotep/imhotep/core/TaskState") (E_r3 : Exa Z h0 r3 "com/example/imhotep/imhotep/core/TaskState") (ne_r1_r3 : r1 ≠ r3) (ne_r1_r0 : r1 ≠ r0) (ne_r1_r5 : r1 ≠ r5) (ne_r1_r4 : r1 ≠ r4) (ne_r3_r0 : r3 ≠ r0) (ne_r3_r5 : r3 ≠ r5) (ne_r3_r4 : r3 ≠ r4) :
    OwnMet l Z (⟨"com/example/imhotep/imhotep/core/Trigger", "allows", "(Lcom/example/imhotep/imhotep/core/TaskState;Lcom/example/imhotep/imhotep/core/TaskState;)Z"⟩ : MethodName) prog_36_method_6_code 3 (some .boolean) ({ frames := 2, cells := 0, slots := 0, locals := 40 } : Room) #[(.ref a1), (.ref r3), (.ref r1)] h0 n0 (fun v h => v = some (.int (0 : Int32)) ∧ h0 = h) := by
  refine own_body own_pn1_5_r3 ?_
  intro p e s m below meth c s₁ RR X0
  refine own_enter (own_ef1_5_r3 m a1 r3 r1) ?_
  refine own_aloadN X0 own_d1_0 (pc' := 1) rfl rfl rfl ?_
  refine own_callU (a := a1) (argsL := []) X0 own_d1_1 (y := (⟨"com/example/imhotep/imhotep/core/Trigger", "ordinal", "()I"⟩ : MethodName)) (z := (⟨"java/lang/Enum", "ordinal", "()I"⟩ : MethodName)) (by decide) (hw _ (List.mem_of_getElem? (i := 35) rfl)) (hw _ (List.mem_of_getElem? (i := 36) rfl)) (hw _ (List.mem_of_getElem? (i := 37) rfl)) (hw _ (List.mem_of_getElem? (i := 39) rfl)) (hw _ (List.mem_of_getElem? (i := 38) rfl)) (hw _ (List.mem_of_getElem? (i := 41) rfl)) (hw _ (List.mem_of_getElem? (i := 40) rfl)) E_a1 (own_rm2 l Z a0 hw a1 (5 : Int32) h0 n0 Z0 F_ordinal_a1) own_pd1 rfl (S := []) rfl (pc' := 4) rfl rfl (W := 0) (Nat.le_of_eq rfl) (by decide) (by decide) (by decide) (by decide) ?_
  intro T1 h1 v1_ X1 q1_
  obtain ⟨rfl, rfl⟩ := q1_
  show OwnGo p e below (T1.setTop (mkF m 4 #[.val (.ref a1), .val (.ref r3), .val (.ref r1)] [(.int (5 : Int32))])) RR
  refine own_tsw X1 own_d1_4 (o := 145) (by decide) rfl (pc' := 149) (by decide) (by decide) ?_
  refine own_aloadN X1 own_d1_149 (pc' := 150) rfl rfl rfl ?_
  refine own_getS X1 own_d1_150 (hw _ (List.mem_of_getElem? (i := 66) rfl)) Via.refl S_RUNNING (pc' := 153) rfl ?_
  intro T2 X2
  refine own_acY X2 own_d1_153 (own_feqA ((ne_r1_r3.symm : ¬ (r3 = r1)))).2 (pc' := 168) (by decide) (by decide) ?_
  refine own_iconst X2 own_d1_168 (pc' := 169) rfl (v := (0 : Int32)) (by decide) ?_
  refine own_goto X2 own_d1_169 (pc' := 213) (by decide) (by decide) ?_
  exact own_retZ X2 own_d1_213 (by decide) ⟨rfl, rfl⟩ (by decide) (by decide)
theorem own_ef1_6_r1 (m : MethodId) (x0 : Addr) (x1 : Addr) (x2 : Addr) : entryFrame m #[(.ref x0), (.ref x1), (.ref x2)] 3 = mkF m 0 #[.val (.ref x0), .val (.ref x1), .val (.ref x2)] [] := by first | (simp [entryFrame, mkF, argsToLocals, Value.category]; done) | rfl
theorem own_pn1_6_r1 : plainFor (⟨"com/example/imhotep/imhotep/core/Trigger", "allows", "(Lcom/example/imhotep/imhotep/core/TaskState;Lcom/example/imhotep/imhotep/core/TaskState;)Z"⟩ : MethodName) = true := by first | exact plainFor_of_name (by first | (simp [plainName, overriddenIn]; done) | decide +kernel) | exact Jvm.Free.JP.mathPlain rfl (by decide +kernel)
set_option maxRecDepth 65536 in
set_option maxHeartbeats 40000000 in
theorem own_rm1_6_r1 (l : Launch) (Z : State) (a0 : Array Value) (hw : ∀ d ∈ tables_1, d.before a0 Z = true) (a1 : Addr) (r1 : Addr) (r3 : Addr) (r0 : Addr) (r5 : Addr) (r4 : Addr) (h0 : Heap) (n0 : Nat) (Z0 : n0 ≤ h0.size) (E_a1 : Exa Z h0 a1 "com/example/imhotep/imhotep/core/Trigger") (F_ordinal_a1 : Fld Z h0 a1 "java/lang/Enum" "ordinal" "I" (.int (6 : Int32))) (S_RUNNING : Sta Z h0 "com/example/imhotep/imhotep/core/TaskState" "RUNNING" "Lcom/example/imhotep/imhotep/core/TaskState;" (.ref r1)) (S_REVIEW : Sta Z h0 "com/example/imhotep/imhotep/core/TaskState" "REVIEW" "Lcom/example/imhotep/imhotep/core/TaskState;" (.ref r3)) (S_PENDING : Sta Z h0 "com/example/imhotep/imhotep/core/TaskState" "PENDING" "Lcom/example/imhotep/imhotep/core/TaskState;" (.ref r0)) (S_FAILED : Sta Z h0 "com/example/imhotep/imhotep/core/TaskState" "FAILED" "Lcom/example/imhotep/imhotep/core/TaskState;" (.ref r5)) (S_DONE : Sta Z h0 "com/example/imhotep/imhotep/core/TaskState" "DONE" "Lcom/example/imhotep/imhotep/core/TaskState;" (.ref r4)) (E_r1 : Exa Z h0 r1 "com/example/imhotep/imhotep/core/TaskState") (E_r3 : Exa Z h0 r3 "com/example/imhotep/imhotep/core/TaskState") (ne_r1_r3 : r1 ≠ r3) (ne_r1_r0 : r1 ≠ r0) (ne_r1_r5 : r1 ≠ r5) (ne_r1_r4 : r1 ≠ r4) (ne_r3_r0 : r3 ≠ r0) (ne_r3_r5 : r3 ≠ r5) (ne_r3_r4 : r3 ≠ r4) :
    OwnMet l Z (⟨"com/example/imhotep/imhotep/core/Trigger", "allows", "(Lcom/example/imhotep/imhotep/core/TaskState;Lcom/example/imhotep/imhotep/core/TaskState;)Z"⟩ : MethodName) prog_36_method_6_code 3 (some .boolean) ({ frames := 2, cells := 0, slots := 0, locals := 40 } : Room) #[(.ref a1), (.ref r1), (.ref r3)] h0 n0 (fun v h => v = some (.int (0 : Int32)) ∧ h0 = h) := by
  refine own_body own_pn1_6_r1 ?_
  intro p e s m below meth c s₁ RR X0
  refine own_enter (own_ef1_6_r1 m a1 r1 r3) ?_
  refine own_aloadN X0 own_d1_0 (pc' := 1) rfl rfl rfl ?_
  refine own_callU (a := a1) (argsL := []) X0 own_d1_1 (y := (⟨"com/example/imhotep/imhotep/core/Trigger", "ordinal", "()I"⟩ : MethodName)) (z := (⟨"java/lang/Enum", "ordinal", "()I"⟩ : MethodName)) (by decide) (hw _ (List.mem_of_getElem? (i := 35) rfl)) (hw _ (List.mem_of_getElem? (i := 36) rfl)) (hw _ (List.mem_of_getElem? (i := 37) rfl)) (hw _ (List.mem_of_getElem? (i := 39) rfl)) (hw _ (List.mem_of_getElem? (i := 38) rfl)) (hw _ (List.mem_of_getElem? (i := 41) rfl)) (hw _ (List.mem_of_getElem? (i := 40) rfl)) E_a1 (own_rm2 l Z a0 hw a1 (6 : Int32) h0 n0 Z0 F_ordinal_a1) own_pd1 rfl (S := []) rfl (pc' := 4) rfl rfl (W := 0) (Nat.le_of_eq rfl) (by decide) (by decide) (by decide) (by decide) ?_
  intro T1 h1 v1_ X1 q1_
  obtain ⟨rfl, rfl⟩ := q1_
  show OwnGo p e below (T1.setTop (mkF m 4 #[.val (.ref a1), .val (.ref r1), .val (.ref r3)] [(.int (6 : Int32))])) RR
  refine own_tsw X1 own_d1_4 (o := 145) (by decide) rfl (pc' := 149) (by decide) (by decide) ?_
  refine own_aloadN X1 own_d1_149 (pc' := 150) rfl rfl rfl ?_
  refine own_getS X1 own_d1_150 (hw _ (List.mem_of_getElem? (i := 66) rfl)) Via.refl S_RUNNING (pc' := 153) rfl ?_
  intro T2 X2
  refine own_acN X2 own_d1_153 (own_teqA ((rfl : r1 = r1))).2 (pc' := 156) rfl ?_
  refine own_aloadN X2 own_d1_156 (pc' := 157) rfl rfl rfl ?_
  refine own_aloadN X2 own_d1_157 (pc' := 158) rfl rfl rfl ?_
  refine own_callS (argsL := [(.ref r1), (.ref r3)]) X2 own_d1_158 (y := (⟨"com/example/imhotep/imhotep/core/Trigger", "failsHeld", "(Lcom/example/imhotep/imhotep/core/TaskState;Lcom/example/imhotep/imhotep/core/TaskState;)Z"⟩ : MethodName)) (by decide) (hw _ (List.mem_of_getElem? (i := 52) rfl)) (hw _ (List.mem_of_getElem? (i := 53) rfl)) (hw _ (List.mem_of_getElem? (i := 54) rfl)) (hw _ (List.mem_of_getElem? (i := 3) rfl)) (own_rm4_r1 l Z a0 hw r1 r3 r0 r5 r4 h0 n0 Z0 S_RUNNING S_REVIEW S_PENDING S_FAILED S_DONE E_r1 E_r3 ne_r1_r3 ne_r1_r0 ne_r1_r5 ne_r1_r4 ne_r3_r0 ne_r3_r5 ne_r3_r4) own_pd2 rfl (S := []) rfl (pc' := 161) rfl rfl (W := 0) (Nat.le_of_eq rfl) (by decide) (by decide) (by decide) (by decide) ?_
  intro T3 h3 v3_ X3 q3_
  obtain ⟨rfl, rfl⟩ := q3_
  show OwnGo p e below (T3.setTop (mkF m 161 #[.val (.ref a1), .val (.ref r1), .val (.ref r3)] [(.int (0 : Int32))])) RR
  refine own_ifY X3 own_d1_161 (teq ((rfl : (0 : Int32) = (0 : Int32)))).1 (pc' := 168) (by decide) (by decide) ?_
  refine own_iconst X3 own_d1_168 (pc' := 169) rfl (v := (0 : Int32)) (by decide) ?_
  refine own_goto X3 own_d1_169 (pc' := 213) (by decide) (by decide) ?_
  exact own_retZ X3 own_d1_213 (by decide) ⟨rfl, rfl⟩ (by decide) (by decide)
theorem own_ef1_6_r3 (m : MethodId) (x0 : Addr) (x1 : Addr) (x2 : Addr) : entryFrame m #[(.ref x0), (.ref x1), (.ref x2)] 3 = mkF m 0 #[.val (.ref x0), .val (.ref x1), .val (.ref x2)] [] := by first | (simp [entryFrame, mkF, argsToLocals, Value.category]; done) | rfl
theorem own_pn1_6_r3 : plainFor (⟨"com/example/imhotep/imhotep/core/Trigger", "allows", "(Lcom/example/imhotep/imhotep/core/TaskState;Lcom/example/imhotep/imhotep/core/TaskState;)Z"⟩ : MethodName) = true := by first | exact plainFor_of_name (by first | (simp [plainName, overriddenIn]; done) | decide +kernel) | exact Jvm.Free.JP.mathPlain rfl (by decide +kernel)
set_option maxRecDepth 65536 in
set_option maxHeartbeats 40000000 in
theorem own_rm1_6_r3 (l : Launch) (Z : State) (a0 : Array Value) (hw : ∀ d ∈ tables_1, d.before a0 Z = true) (a1 : Addr) (r1 : Addr) (r3 : Addr) (r0 : Addr) (r5 : Addr) (r4 : Addr) (h0 : Heap) (n0 : Nat) (Z0 : n0 ≤ h0.size) (E_a1 : Exa Z h0 a1 "com/example/imhotep/imhotep/core/Trigger") (F_ordinal_a1 : Fld Z h0 a1 "java/lang/Enum" "ordinal" "I" (.int (6 : Int32))) (S_RUNNING : Sta Z h0 "com/example/imhotep/imhotep/core/TaskState" "RUNNING" "Lcom/example/imhotep/imhotep/core/TaskState;" (.ref r1)) (S_REVIEW : Sta Z h0 "com/example/imhotep/imhotep/core/TaskState" "REVIEW" "Lcom/example/imhotep/imhotep/core/TaskState;" (.ref r3)) (S_PENDING : Sta Z h0 "com/example/imhotep/imhotep/core/TaskState" "PENDING" "Lcom/example/imhotep/imhotep/core/TaskState;" (.ref r0)) (S_FAILED : Sta Z h0 "com/example/imhotep/imhotep/core/TaskState" "FAILED" "Lcom/example/imhotep/imhotep/core/TaskState;" (.ref r5)) (S_DONE : Sta Z h0 "com/example/imhotep/imhotep/core/TaskState" "DONE" "Lcom/example/imhotep/imhotep/core/TaskState;" (.ref r4)) (E_r1 : Exa Z h0 r1 "com/example/imhotep/imhotep/core/TaskState") (E_r3 : Exa Z h0 r3 "com/example/imhotep/imhotep/core/TaskState") (ne_r1_r3 : r1 ≠ r3) (ne_r1_r0 : r1 ≠ r0) (ne_r1_r5 : r1 ≠ r5) (ne_r1_r4 : r1 ≠ r4) (ne_r3_r0 : r3 ≠ r0) (ne_r3_r5 : r3 ≠ r5) (ne_r3_r4 : r3 ≠ r4) :
    OwnMet l Z (⟨"com/example/imhotep/imhotep/core/Trigger", "allows", "(Lcom/example/imhotep/imhotep/core/TaskState;Lcom/example/imhotep/imhotep/core/TaskState;)Z"⟩ : MethodName) prog_36_method_6_code 3 (some .boolean) ({ frames := 2, cells := 0, slots := 0, locals := 40 } : Room) #[(.ref a1), (.ref r3), (.ref r1)] h0 n0 (fun v h => v = some (.int (0 : Int32)) ∧ h0 = h) := by
  refine own_body own_pn1_6_r3 ?_
  intro p e s m below meth c s₁ RR X0
  refine own_enter (own_ef1_6_r3 m a1 r3 r1) ?_
  refine own_aloadN X0 own_d1_0 (pc' := 1) rfl rfl rfl ?_
  refine own_callU (a := a1) (argsL := []) X0 own_d1_1 (y := (⟨"com/example/imhotep/imhotep/core/Trigger", "ordinal", "()I"⟩ : MethodName)) (z := (⟨"java/lang/Enum", "ordinal", "()I"⟩ : MethodName)) (by decide) (hw _ (List.mem_of_getElem? (i := 35) rfl)) (hw _ (List.mem_of_getElem? (i := 36) rfl)) (hw _ (List.mem_of_getElem? (i := 37) rfl)) (hw _ (List.mem_of_getElem? (i := 39) rfl)) (hw _ (List.mem_of_getElem? (i := 38) rfl)) (hw _ (List.mem_of_getElem? (i := 41) rfl)) (hw _ (List.mem_of_getElem? (i := 40) rfl)) E_a1 (own_rm2 l Z a0 hw a1 (6 : Int32) h0 n0 Z0 F_ordinal_a1) own_pd1 rfl (S := []) rfl (pc' := 4) rfl rfl (W := 0) (Nat.le_of_eq rfl) (by decide) (by decide) (by decide) (by decide) ?_
  intro T1 h1 v1_ X1 q1_
  obtain ⟨rfl, rfl⟩ := q1_
  show OwnGo p e below (T1.setTop (mkF m 4 #[.val (.ref a1), .val (.ref r3), .val (.ref r1)] [(.int (6 : Int32))])) RR
  refine own_tsw X1 own_d1_4 (o := 145) (by decide) rfl (pc' := 149) (by decide) (by decide) ?_
  refine own_aloadN X1 own_d1_149 (pc' := 150) rfl rfl rfl ?_
  refine own_getS X1 own_d1_150 (hw _ (List.mem_of_getElem? (i := 66) rfl)) Via.refl S_RUNNING (pc' := 153) rfl ?_
  intro T2 X2
  refine own_acY X2 own_d1_153 (own_feqA ((ne_r1_r3.symm : ¬ (r3 = r1)))).2 (pc' := 168) (by decide) (by decide) ?_
  refine own_iconst X2 own_d1_168 (pc' := 169) rfl (v := (0 : Int32)) (by decide) ?_
  refine own_goto X2 own_d1_169 (pc' := 213) (by decide) (by decide) ?_
  exact own_retZ X2 own_d1_213 (by decide) ⟨rfl, rfl⟩ (by decide) (by decide)
theorem own_ef1_7_r1 (m : MethodId) (x0 : Addr) (x1 : Addr) (x2 : Addr) : entryFrame m #[(.ref x0), (.ref x1), (.ref x2)] 3 = mkF m 0 #[.val (.ref x0), .val (.ref x1), .val (.ref x2)] [] := by first | (simp [entryFrame, mkF, argsToLocals, Value.category]; done) | rfl
theorem own_pn1_7_r1 : plainFor (⟨"com/example/imhotep/imhotep/core/Trigger", "allows", "(Lcom/example/imhotep/imhotep/core/TaskState;Lcom/example/imhotep/imhotep/core/TaskState;)Z"⟩ : MethodName) = true := by first | exact plainFor_of_name (by first | (simp [plainName, overriddenIn]; done) | decide +kernel) | exact Jvm.Free.JP.mathPlain rfl (by decide +kernel)
set_option maxRecDepth 65536 in
set_option maxHeartbeats 40000000 in
theorem own_rm1_7_r1 (l : Launch) (Z : State) (a0 : Array Value) (hw : ∀ d ∈ tables_1, d.before a0 Z = true) (a1 : Addr) (r1 : Addr) (r3 : Addr) (r0 : Addr) (r5 : Addr) (r4 : Addr) (h0 : Heap) (n0 : Nat) (Z0 : n0 ≤ h0.size) (E_a1 : Exa Z h0 a1 "com/example/imhotep/imhotep/core/Trigger") (F_ordinal_a1 : Fld Z h0 a1 "java/lang/Enum" "ordinal" "I" (.int (7 : Int32))) (S_RUNNING : Sta Z h0 "com/example/imhotep/imhotep/core/TaskState" "RUNNING" "Lcom/example/imhotep/imhotep/core/TaskState;" (.ref r1)) (S_REVIEW : Sta Z h0 "com/example/imhotep/imhotep/core/TaskState" "REVIEW" "Lcom/example/imhotep/imhotep/core/TaskState;" (.ref r3)) (S_PENDING : Sta Z h0 "com/example/imhotep/imhotep/core/TaskState" "PENDING" "Lcom/example/imhotep/imhotep/core/TaskState;" (.ref r0)) (S_FAILED : Sta Z h0 "com/example/imhotep/imhotep/core/TaskState" "FAILED" "Lcom/example/imhotep/imhotep/core/TaskState;" (.ref r5)) (S_DONE : Sta Z h0 "com/example/imhotep/imhotep/core/TaskState" "DONE" "Lcom/example/imhotep/imhotep/core/TaskState;" (.ref r4)) (E_r1 : Exa Z h0 r1 "com/example/imhotep/imhotep/core/TaskState") (E_r3 : Exa Z h0 r3 "com/example/imhotep/imhotep/core/TaskState") (ne_r1_r3 : r1 ≠ r3) (ne_r1_r0 : r1 ≠ r0) (ne_r1_r5 : r1 ≠ r5) (ne_r1_r4 : r1 ≠ r4) (ne_r3_r0 : r3 ≠ r0) (ne_r3_r5 : r3 ≠ r5) (ne_r3_r4 : r3 ≠ r4) :
    OwnMet l Z (⟨"com/example/imhotep/imhotep/core/Trigger", "allows", "(Lcom/example/imhotep/imhotep/core/TaskState;Lcom/example/imhotep/imhotep/core/TaskState;)Z"⟩ : MethodName) prog_36_method_6_code 3 (some .boolean) ({ frames := 2, cells := 0, slots := 0, locals := 40 } : Room) #[(.ref a1), (.ref r1), (.ref r3)] h0 n0 (fun v h => v = some (.int (1 : Int32)) ∧ h0 = h) := by
  refine own_body own_pn1_7_r1 ?_
  intro p e s m below meth c s₁ RR X0
  refine own_enter (own_ef1_7_r1 m a1 r1 r3) ?_
  refine own_aloadN X0 own_d1_0 (pc' := 1) rfl rfl rfl ?_
  refine own_callU (a := a1) (argsL := []) X0 own_d1_1 (y := (⟨"com/example/imhotep/imhotep/core/Trigger", "ordinal", "()I"⟩ : MethodName)) (z := (⟨"java/lang/Enum", "ordinal", "()I"⟩ : MethodName)) (by decide) (hw _ (List.mem_of_getElem? (i := 35) rfl)) (hw _ (List.mem_of_getElem? (i := 36) rfl)) (hw _ (List.mem_of_getElem? (i := 37) rfl)) (hw _ (List.mem_of_getElem? (i := 39) rfl)) (hw _ (List.mem_of_getElem? (i := 38) rfl)) (hw _ (List.mem_of_getElem? (i := 41) rfl)) (hw _ (List.mem_of_getElem? (i := 40) rfl)) E_a1 (own_rm2 l Z a0 hw a1 (7 : Int32) h0 n0 Z0 F_ordinal_a1) own_pd1 rfl (S := []) rfl (pc' := 4) rfl rfl (W := 0) (Nat.le_of_eq rfl) (by decide) (by decide) (by decide) (by decide) ?_
  intro T1 h1 v1_ X1 q1_
  obtain ⟨rfl, rfl⟩ := q1_
  show OwnGo p e below (T1.setTop (mkF m 4 #[.val (.ref a1), .val (.ref r1), .val (.ref r3)] [(.int (7 : Int32))])) RR
  refine own_tsw X1 own_d1_4 (o := 168) (by decide) rfl (pc' := 172) (by decide) (by decide) ?_
  refine own_aloadN X1 own_d1_172 (pc' := 173) rfl rfl rfl ?_
  refine own_getS X1 own_d1_173 (hw _ (List.mem_of_getElem? (i := 66) rfl)) Via.refl S_RUNNING (pc' := 176) rfl ?_
  intro T2 X2
  refine own_acN X2 own_d1_176 (own_teqA ((rfl : r1 = r1))).2 (pc' := 179) rfl ?_
  refine own_aloadN X2 own_d1_179 (pc' := 180) rfl rfl rfl ?_
  refine own_getS X2 own_d1_180 (hw _ (List.mem_of_getElem? (i := 67) rfl)) Via.refl S_REVIEW (pc' := 183) rfl ?_
  intro T3 X3
  refine own_acN X3 own_d1_183 (own_teqA ((rfl : r3 = r3))).2 (pc' := 186) rfl ?_
  refine own_iconst X3 own_d1_186 (pc' := 187) rfl (v := (1 : Int32)) (by decide) ?_
  refine own_goto X3 own_d1_187 (pc' := 213) (by decide) (by decide) ?_
  exact own_retZ X3 own_d1_213 (by decide) ⟨rfl, rfl⟩ (by decide) (by decide)
theorem own_ef1_7_r3 (m : MethodId) (x0 : Addr) (x1 : Addr) (x2 : Addr) : entryFrame m #[(.ref x0), (.ref x1), (.ref x2)] 3 = mkF m 0 #[.val (.ref x0), .val (.ref x1), .val (.ref x2)] [] := by first | (simp [entryFrame, mkF, argsToLocals, Value.category]; done) | rfl
theorem own_pn1_7_r3 : plainFor (⟨"com/example/imhotep/imhotep/core/Trigger", "allows", "(Lcom/example/imhotep/imhotep/core/TaskState;Lcom/example/imhotep/imhotep/core/TaskState;)Z"⟩ : MethodName) = true := by first | exact plainFor_of_name (by first | (simp [plainName, overriddenIn]; done) | decide +kernel) | exact Jvm.Free.JP.mathPlain rfl (by decide +kernel)
set_option maxRecDepth 65536 in
set_option maxHeartbeats 40000000 in
theorem own_rm1_7_r3 (l : Launch) (Z : State) (a0 : Array Value) (hw : ∀ d ∈ tables_1, d.before a0 Z = true) (a1 : Addr) (r1 : Addr) (r3 : Addr) (r0 : Addr) (r5 : Addr) (r4 : Addr) (h0 : Heap) (n0 : Nat) (Z0 : n0 ≤ h0.size) (E_a1 : Exa Z h0 a1 "com/example/imhotep/imhotep/core/Trigger") (F_ordinal_a1 : Fld Z h0 a1 "java/lang/Enum" "ordinal" "I" (.int (7 : Int32))) (S_RUNNING : Sta Z h0 "com/example/imhotep/imhotep/core/TaskState" "RUNNING" "Lcom/example/imhotep/imhotep/core/TaskState;" (.ref r1)) (S_REVIEW : Sta Z h0 "com/example/imhotep/imhotep/core/TaskState" "REVIEW" "Lcom/example/imhotep/imhotep/core/TaskState;" (.ref r3)) (S_PENDING : Sta Z h0 "com/example/imhotep/imhotep/core/TaskState" "PENDING" "Lcom/example/imhotep/imhotep/core/TaskState;" (.ref r0)) (S_FAILED : Sta Z h0 "com/example/imhotep/imhotep/core/TaskState" "FAILED" "Lcom/example/imhotep/imhotep/core/TaskState;" (.ref r5)) (S_DONE : Sta Z h0 "com/example/imhotep/imhotep/core/TaskState" "DONE" "Lcom/example/imhotep/imhotep/core/TaskState;" (.ref r4)) (E_r1 : Exa Z h0 r1 "com/example/imhotep/imhotep/core/TaskState") (E_r3 : Exa Z h0 r3 "com/example/imhotep/imhotep/core/TaskState") (ne_r1_r3 : r1 ≠ r3) (ne_r1_r0 : r1 ≠ r0) (ne_r1_r5 : r1 ≠ r5) (ne_r1_r4 : r1 ≠ r4) (ne_r3_r0 : r3 ≠ r0) (ne_r3_r5 : r3 ≠ r5) (ne_r3_r4 : r3 ≠ r4) :
    OwnMet l Z (⟨"com/example/imhotep/imhotep/core/Trigger", "allows", "(Lcom/example/imhotep/imhotep/core/TaskState;Lcom/example/imhotep/imhotep/core/TaskState;)Z"⟩ : MethodName) prog_36_method_6_code 3 (some .boolean) ({ frames := 2, cells := 0, slots := 0, locals := 40 } : Room) #[(.ref a1), (.ref r3), (.ref r1)] h0 n0 (fun v h => v = some (.int (0 : Int32)) ∧ h0 = h) := by
  refine own_body own_pn1_7_r3 ?_
  intro p e s m below meth c s₁ RR X0
  refine own_enter (own_ef1_7_r3 m a1 r3 r1) ?_
  refine own_aloadN X0 own_d1_0 (pc' := 1) rfl rfl rfl ?_
  refine own_callU (a := a1) (argsL := []) X0 own_d1_1 (y := (⟨"com/example/imhotep/imhotep/core/Trigger", "ordinal", "()I"⟩ : MethodName)) (z := (⟨"java/lang/Enum", "ordinal", "()I"⟩ : MethodName)) (by decide) (hw _ (List.mem_of_getElem? (i := 35) rfl)) (hw _ (List.mem_of_getElem? (i := 36) rfl)) (hw _ (List.mem_of_getElem? (i := 37) rfl)) (hw _ (List.mem_of_getElem? (i := 39) rfl)) (hw _ (List.mem_of_getElem? (i := 38) rfl)) (hw _ (List.mem_of_getElem? (i := 41) rfl)) (hw _ (List.mem_of_getElem? (i := 40) rfl)) E_a1 (own_rm2 l Z a0 hw a1 (7 : Int32) h0 n0 Z0 F_ordinal_a1) own_pd1 rfl (S := []) rfl (pc' := 4) rfl rfl (W := 0) (Nat.le_of_eq rfl) (by decide) (by decide) (by decide) (by decide) ?_
  intro T1 h1 v1_ X1 q1_
  obtain ⟨rfl, rfl⟩ := q1_
  show OwnGo p e below (T1.setTop (mkF m 4 #[.val (.ref a1), .val (.ref r3), .val (.ref r1)] [(.int (7 : Int32))])) RR
  refine own_tsw X1 own_d1_4 (o := 168) (by decide) rfl (pc' := 172) (by decide) (by decide) ?_
  refine own_aloadN X1 own_d1_172 (pc' := 173) rfl rfl rfl ?_
  refine own_getS X1 own_d1_173 (hw _ (List.mem_of_getElem? (i := 66) rfl)) Via.refl S_RUNNING (pc' := 176) rfl ?_
  intro T2 X2
  refine own_acY X2 own_d1_176 (own_feqA ((ne_r1_r3.symm : ¬ (r3 = r1)))).2 (pc' := 190) (by decide) (by decide) ?_
  refine own_iconst X2 own_d1_190 (pc' := 191) rfl (v := (0 : Int32)) (by decide) ?_
  refine own_goto X2 own_d1_191 (pc' := 213) (by decide) (by decide) ?_
  exact own_retZ X2 own_d1_213 (by decide) ⟨rfl, rfl⟩ (by decide) (by decide)
theorem own_ef1_8_r1 (m : MethodId) (x0 : Addr) (x1 : Addr) (x2 : Addr) : entryFrame m #[(.ref x0), (.ref x1), (.ref x2)] 3 = mkF m 0 #[.val (.ref x0), .val (.ref x1), .val (.ref x2)] [] := by first | (simp [entryFrame, mkF, argsToLocals, Value.category]; done) | rfl
theorem own_pn1_8_r1 : plainFor (⟨"com/example/imhotep/imhotep/core/Trigger", "allows", "(Lcom/example/imhotep/imhotep/core/TaskState;Lcom/example/imhotep/imhotep/core/TaskState;)Z"⟩ : MethodName) = true := by first | exact plainFor_of_name (by first | (simp [plainName, overriddenIn]; done) | decide +kernel) | exact Jvm.Free.JP.mathPlain rfl (by decide +kernel)
set_option maxRecDepth 65536 in
set_option maxHeartbeats 40000000 in
theorem own_rm1_8_r1 (l : Launch) (Z : State) (a0 : Array Value) (hw : ∀ d ∈ tables_1, d.before a0 Z = true) (a1 : Addr) (r1 : Addr) (r3 : Addr) (r0 : Addr) (r5 : Addr) (r4 : Addr) (h0 : Heap) (n0 : Nat) (Z0 : n0 ≤ h0.size) (E_a1 : Exa Z h0 a1 "com/example/imhotep/imhotep/core/Trigger") (F_ordinal_a1 : Fld Z h0 a1 "java/lang/Enum" "ordinal" "I" (.int (8 : Int32))) (S_RUNNING : Sta Z h0 "com/example/imhotep/imhotep/core/TaskState" "RUNNING" "Lcom/example/imhotep/imhotep/core/TaskState;" (.ref r1)) (S_REVIEW : Sta Z h0 "com/example/imhotep/imhotep/core/TaskState" "REVIEW" "Lcom/example/imhotep/imhotep/core/TaskState;" (.ref r3)) (S_PENDING : Sta Z h0 "com/example/imhotep/imhotep/core/TaskState" "PENDING" "Lcom/example/imhotep/imhotep/core/TaskState;" (.ref r0)) (S_FAILED : Sta Z h0 "com/example/imhotep/imhotep/core/TaskState" "FAILED" "Lcom/example/imhotep/imhotep/core/TaskState;" (.ref r5)) (S_DONE : Sta Z h0 "com/example/imhotep/imhotep/core/TaskState" "DONE" "Lcom/example/imhotep/imhotep/core/TaskState;" (.ref r4)) (E_r1 : Exa Z h0 r1 "com/example/imhotep/imhotep/core/TaskState") (E_r3 : Exa Z h0 r3 "com/example/imhotep/imhotep/core/TaskState") (ne_r1_r3 : r1 ≠ r3) (ne_r1_r0 : r1 ≠ r0) (ne_r1_r5 : r1 ≠ r5) (ne_r1_r4 : r1 ≠ r4) (ne_r3_r0 : r3 ≠ r0) (ne_r3_r5 : r3 ≠ r5) (ne_r3_r4 : r3 ≠ r4) :
    OwnMet l Z (⟨"com/example/imhotep/imhotep/core/Trigger", "allows", "(Lcom/example/imhotep/imhotep/core/TaskState;Lcom/example/imhotep/imhotep/core/TaskState;)Z"⟩ : MethodName) prog_36_method_6_code 3 (some .boolean) ({ frames := 2, cells := 0, slots := 0, locals := 40 } : Room) #[(.ref a1), (.ref r1), (.ref r3)] h0 n0 (fun v h => v = some (.int (0 : Int32)) ∧ h0 = h) := by
  refine own_body own_pn1_8_r1 ?_
  intro p e s m below meth c s₁ RR X0
  refine own_enter (own_ef1_8_r1 m a1 r1 r3) ?_
  refine own_aloadN X0 own_d1_0 (pc' := 1) rfl rfl rfl ?_
  refine own_callU (a := a1) (argsL := []) X0 own_d1_1 (y := (⟨"com/example/imhotep/imhotep/core/Trigger", "ordinal", "()I"⟩ : MethodName)) (z := (⟨"java/lang/Enum", "ordinal", "()I"⟩ : MethodName)) (by decide) (hw _ (List.mem_of_getElem? (i := 35) rfl)) (hw _ (List.mem_of_getElem? (i := 36) rfl)) (hw _ (List.mem_of_getElem? (i := 37) rfl)) (hw _ (List.mem_of_getElem? (i := 39) rfl)) (hw _ (List.mem_of_getElem? (i := 38) rfl)) (hw _ (List.mem_of_getElem? (i := 41) rfl)) (hw _ (List.mem_of_getElem? (i := 40) rfl)) E_a1 (own_rm2 l Z a0 hw a1 (8 : Int32) h0 n0 Z0 F_ordinal_a1) own_pd1 rfl (S := []) rfl (pc' := 4) rfl rfl (W := 0) (Nat.le_of_eq rfl) (by decide) (by decide) (by decide) (by decide) ?_
  intro T1 h1 v1_ X1 q1_
  obtain ⟨rfl, rfl⟩ := q1_
  show OwnGo p e below (T1.setTop (mkF m 4 #[.val (.ref a1), .val (.ref r1), .val (.ref r3)] [(.int (8 : Int32))])) RR
  refine own_tsw X1 own_d1_4 (o := 190) (by decide) rfl (pc' := 194) (by decide) (by decide) ?_
  refine own_aloadN X1 own_d1_194 (pc' := 195) rfl rfl rfl ?_
  refine own_getS X1 own_d1_195 (hw _ (List.mem_of_getElem? (i := 67) rfl)) Via.refl S_REVIEW (pc' := 198) rfl ?_
  intro T2 X2
  refine own_acY X2 own_d1_198 (own_feqA ((ne_r1_r3 : ¬ (r1 = r3)))).2 (pc' := 212) (by decide) (by decide) ?_
  refine own_iconst X2 own_d1_212 (pc' := 213) rfl (v := (0 : Int32)) (by decide) ?_
  exact own_retZ X2 own_d1_213 (by decide) ⟨rfl, rfl⟩ (by decide) (by decide)
theorem own_ef1_8_r3 (m : MethodId) (x0 : Addr) (x1 : Addr) (x2 : Addr) : entryFrame m #[(.ref x0), (.ref x1), (.ref x2)] 3 = mkF m 0 #[.val (.ref x0), .val (.ref x1), .val (.ref x2)] [] := by first | (simp [entryFrame, mkF, argsToLocals, Value.category]; done) | rfl
theorem own_pn1_8_r3 : plainFor (⟨"com/example/imhotep/imhotep/core/Trigger", "allows", "(Lcom/example/imhotep/imhotep/core/TaskState;Lcom/example/imhotep/imhotep/core/TaskState;)Z"⟩ : MethodName) = true := by first | exact plainFor_of_name (by first | (simp [plainName, overriddenIn]; done) | decide +kernel) | exact Jvm.Free.JP.mathPlain rfl (by decide +kernel)
set_option maxRecDepth 65536 in
set_option maxHeartbeats 40000000 in
theorem own_rm1_8_r3 (l : Launch) (Z : State) (a0 : Array Value) (hw : ∀ d ∈ tables_1, d.before a0 Z = true) (a1 : Addr) (r1 : Addr) (r3 : Addr) (r0 : Addr) (r5 : Addr) (r4 : Addr) (h0 : Heap) (n0 : Nat) (Z0 : n0 ≤ h0.size) (E_a1 : Exa Z h0 a1 "com/example/imhotep/imhotep/core/Trigger") (F_ordinal_a1 : Fld Z h0 a1 "java/lang/Enum" "ordinal" "I" (.int (8 : Int32))) (S_RUNNING : Sta Z h0 "com/example/imhotep/imhotep/core/TaskState" "RUNNING" "Lcom/example/imhotep/imhotep/core/TaskState;" (.ref r1)) (S_REVIEW : Sta Z h0 "com/example/imhotep/imhotep/core/TaskState" "REVIEW" "Lcom/example/imhotep/imhotep/core/TaskState;" (.ref r3)) (S_PENDING : Sta Z h0 "com/example/imhotep/imhotep/core/TaskState" "PENDING" "Lcom/example/imhotep/imhotep/core/TaskState;" (.ref r0)) (S_FAILED : Sta Z h0 "com/example/imhotep/imhotep/core/TaskState" "FAILED" "Lcom/example/imhotep/imhotep/core/TaskState;" (.ref r5)) (S_DONE : Sta Z h0 "com/example/imhotep/imhotep/core/TaskState" "DONE" "Lcom/example/imhotep/imhotep/core/TaskState;" (.ref r4)) (E_r1 : Exa Z h0 r1 "com/example/imhotep/imhotep/core/TaskState") (E_r3 : Exa Z h0 r3 "com/example/imhotep/imhotep/core/TaskState") (ne_r1_r3 : r1 ≠ r3) (ne_r1_r0 : r1 ≠ r0) (ne_r1_r5 : r1 ≠ r5) (ne_r1_r4 : r1 ≠ r4) (ne_r3_r0 : r3 ≠ r0) (ne_r3_r5 : r3 ≠ r5) (ne_r3_r4 : r3 ≠ r4) :
    OwnMet l Z (⟨"com/example/imhotep/imhotep/core/Trigger", "allows", "(Lcom/example/imhotep/imhotep/core/TaskState;Lcom/example/imhotep/imhotep/core/TaskState;)Z"⟩ : MethodName) prog_36_method_6_code 3 (some .boolean) ({ frames := 2, cells := 0, slots := 0, locals := 40 } : Room) #[(.ref a1), (.ref r3), (.ref r1)] h0 n0 (fun v h => v = some (.int (1 : Int32)) ∧ h0 = h) := by
  refine own_body own_pn1_8_r3 ?_
  intro p e s m below meth c s₁ RR X0
  refine own_enter (own_ef1_8_r3 m a1 r3 r1) ?_
  refine own_aloadN X0 own_d1_0 (pc' := 1) rfl rfl rfl ?_
  refine own_callU (a := a1) (argsL := []) X0 own_d1_1 (y := (⟨"com/example/imhotep/imhotep/core/Trigger", "ordinal", "()I"⟩ : MethodName)) (z := (⟨"java/lang/Enum", "ordinal", "()I"⟩ : MethodName)) (by decide) (hw _ (List.mem_of_getElem? (i := 35) rfl)) (hw _ (List.mem_of_getElem? (i := 36) rfl)) (hw _ (List.mem_of_getElem? (i := 37) rfl)) (hw _ (List.mem_of_getElem? (i := 39) rfl)) (hw _ (List.mem_of_getElem? (i := 38) rfl)) (hw _ (List.mem_of_getElem? (i := 41) rfl)) (hw _ (List.mem_of_getElem? (i := 40) rfl)) E_a1 (own_rm2 l Z a0 hw a1 (8 : Int32) h0 n0 Z0 F_ordinal_a1) own_pd1 rfl (S := []) rfl (pc' := 4) rfl rfl (W := 0) (Nat.le_of_eq rfl) (by decide) (by decide) (by decide) (by decide) ?_
  intro T1 h1 v1_ X1 q1_
  obtain ⟨rfl, rfl⟩ := q1_
  show OwnGo p e below (T1.setTop (mkF m 4 #[.val (.ref a1), .val (.ref r3), .val (.ref r1)] [(.int (8 : Int32))])) RR
  refine own_tsw X1 own_d1_4 (o := 190) (by decide) rfl (pc' := 194) (by decide) (by decide) ?_
  refine own_aloadN X1 own_d1_194 (pc' := 195) rfl rfl rfl ?_
  refine own_getS X1 own_d1_195 (hw _ (List.mem_of_getElem? (i := 67) rfl)) Via.refl S_REVIEW (pc' := 198) rfl ?_
  intro T2 X2
  refine own_acN X2 own_d1_198 (own_teqA ((rfl : r3 = r3))).2 (pc' := 201) rfl ?_
  refine own_aloadN X2 own_d1_201 (pc' := 202) rfl rfl rfl ?_
  refine own_getS X2 own_d1_202 (hw _ (List.mem_of_getElem? (i := 66) rfl)) Via.refl S_RUNNING (pc' := 205) rfl ?_
  intro T3 X3
  refine own_acN X3 own_d1_205 (own_teqA ((rfl : r1 = r1))).2 (pc' := 208) rfl ?_
  refine own_iconst X3 own_d1_208 (pc' := 209) rfl (v := (1 : Int32)) (by decide) ?_
  refine own_goto X3 own_d1_209 (pc' := 213) (by decide) (by decide) ?_
  exact own_retZ X3 own_d1_213 (by decide) ⟨rfl, rfl⟩ (by decide) (by decide)
theorem own_ef1_9_r1 (m : MethodId) (x0 : Addr) (x1 : Addr) (x2 : Addr) : entryFrame m #[(.ref x0), (.ref x1), (.ref x2)] 3 = mkF m 0 #[.val (.ref x0), .val (.ref x1), .val (.ref x2)] [] := by first | (simp [entryFrame, mkF, argsToLocals, Value.category]; done) | rfl
theorem own_pn1_9_r1 : plainFor (⟨"com/example/imhotep/imhotep/core/Trigger", "allows", "(Lcom/example/imhotep/imhotep/core/TaskState;Lcom/example/imhotep/imhotep/core/TaskState;)Z"⟩ : MethodName) = true := by first | exact plainFor_of_name (by first | (simp [plainName, overriddenIn]; done) | decide +kernel) | exact Jvm.Free.JP.mathPlain rfl (by decide +kernel)
set_option maxRecDepth 65536 in
set_option maxHeartbeats 40000000 in
theorem own_rm1_9_r1 (l : Launch) (Z : State) (a0 : Array Value) (hw : ∀ d ∈ tables_1, d.before a0 Z = true) (a1 : Addr) (r1 : Addr) (r3 : Addr) (r0 : Addr) (r5 : Addr) (r4 : Addr) (h0 : Heap) (n0 : Nat) (Z0 : n0 ≤ h0.size) (E_a1 : Exa Z h0 a1 "com/example/imhotep/imhotep/core/Trigger") (F_ordinal_a1 : Fld Z h0 a1 "java/lang/Enum" "ordinal" "I" (.int (9 : Int32))) (S_RUNNING : Sta Z h0 "com/example/imhotep/imhotep/core/TaskState" "RUNNING" "Lcom/example/imhotep/imhotep/core/TaskState;" (.ref r1)) (S_REVIEW : Sta Z h0 "com/example/imhotep/imhotep/core/TaskState" "REVIEW" "Lcom/example/imhotep/imhotep/core/TaskState;" (.ref r3)) (S_PENDING : Sta Z h0 "com/example/imhotep/imhotep/core/TaskState" "PENDING" "Lcom/example/imhotep/imhotep/core/TaskState;" (.ref r0)) (S_FAILED : Sta Z h0 "com/example/imhotep/imhotep/core/TaskState" "FAILED" "Lcom/example/imhotep/imhotep/core/TaskState;" (.ref r5)) (S_DONE : Sta Z h0 "com/example/imhotep/imhotep/core/TaskState" "DONE" "Lcom/example/imhotep/imhotep/core/TaskState;" (.ref r4)) (E_r1 : Exa Z h0 r1 "com/example/imhotep/imhotep/core/TaskState") (E_r3 : Exa Z h0 r3 "com/example/imhotep/imhotep/core/TaskState") (ne_r1_r3 : r1 ≠ r3) (ne_r1_r0 : r1 ≠ r0) (ne_r1_r5 : r1 ≠ r5) (ne_r1_r4 : r1 ≠ r4) (ne_r3_r0 : r3 ≠ r0) (ne_r3_r5 : r3 ≠ r5) (ne_r3_r4 : r3 ≠ r4) :
    OwnMet l Z (⟨"com/example/imhotep/imhotep/core/Trigger", "allows", "(Lcom/example/imhotep/imhotep/core/TaskState;Lcom/example/imhotep/imhotep/core/TaskState;)Z"⟩ : MethodName) prog_36_method_6_code 3 (some .boolean) ({ frames := 2, cells := 0, slots := 0, locals := 40 } : Room) #[(.ref a1), (.ref r1), (.ref r3)] h0 n0 (fun v h => v = some (.int (0 : Int32)) ∧ h0 = h) := by
  refine own_body own_pn1_9_r1 ?_
  intro p e s m below meth c s₁ RR X0
  refine own_enter (own_ef1_9_r1 m a1 r1 r3) ?_
  refine own_aloadN X0 own_d1_0 (pc' := 1) rfl rfl rfl ?_
  refine own_callU (a := a1) (argsL := []) X0 own_d1_1 (y := (⟨"com/example/imhotep/imhotep/core/Trigger", "ordinal", "()I"⟩ : MethodName)) (z := (⟨"java/lang/Enum", "ordinal", "()I"⟩ : MethodName)) (by decide) (hw _ (List.mem_of_getElem? (i := 35) rfl)) (hw _ (List.mem_of_getElem? (i := 36) rfl)) (hw _ (List.mem_of_getElem? (i := 37) rfl)) (hw _ (List.mem_of_getElem? (i := 39) rfl)) (hw _ (List.mem_of_getElem? (i := 38) rfl)) (hw _ (List.mem_of_getElem? (i := 41) rfl)) (hw _ (List.mem_of_getElem? (i := 40) rfl)) E_a1 (own_rm2 l Z a0 hw a1 (9 : Int32) h0 n0 Z0 F_ordinal_a1) own_pd1 rfl (S := []) rfl (pc' := 4) rfl rfl (W := 0) (Nat.le_of_eq rfl) (by decide) (by decide) (by decide) (by decide) ?_
  intro T1 h1 v1_ X1 q1_
  obtain ⟨rfl, rfl⟩ := q1_
  show OwnGo p e below (T1.setTop (mkF m 4 #[.val (.ref a1), .val (.ref r1), .val (.ref r3)] [(.int (9 : Int32))])) RR
  refine own_tsw X1 own_d1_4 (o := 190) (by decide) rfl (pc' := 194) (by decide) (by decide) ?_
  refine own_aloadN X1 own_d1_194 (pc' := 195) rfl rfl rfl ?_
  refine own_getS X1 own_d1_195 (hw _ (List.mem_of_getElem? (i := 67) rfl)) Via.refl S_REVIEW (pc' := 198) rfl ?_
  intro T2 X2
  refine own_acY X2 own_d1_198 (own_feqA ((ne_r1_r3 : ¬ (r1 = r3)))).2 (pc' := 212) (by decide) (by decide) ?_
  refine own_iconst X2 own_d1_212 (pc' := 213) rfl (v := (0 : Int32)) (by decide) ?_
  exact own_retZ X2 own_d1_213 (by decide) ⟨rfl, rfl⟩ (by decide) (by decide)
theorem own_ef1_9_r3 (m : MethodId) (x0 : Addr) (x1 : Addr) (x2 : Addr) : entryFrame m #[(.ref x0), (.ref x1), (.ref x2)] 3 = mkF m 0 #[.val (.ref x0), .val (.ref x1), .val (.ref x2)] [] := by first | (simp [entryFrame, mkF, argsToLocals, Value.category]; done) | rfl
theorem own_pn1_9_r3 : plainFor (⟨"com/example/imhotep/imhotep/core/Trigger", "allows", "(Lcom/example/imhotep/imhotep/core/TaskState;Lcom/example/imhotep/imhotep/core/TaskState;)Z"⟩ : MethodName) = true := by first | exact plainFor_of_name (by first | (simp [plainName, overriddenIn]; done) | decide +kernel) | exact Jvm.Free.JP.mathPlain rfl (by decide +kernel)
set_option maxRecDepth 65536 in
set_option maxHeartbeats 40000000 in
theorem own_rm1_9_r3 (l : Launch) (Z : State) (a0 : Array Value) (hw : ∀ d ∈ tables_1, d.before a0 Z = true) (a1 : Addr) (r1 : Addr) (r3 : Addr) (r0 : Addr) (r5 : Addr) (r4 : Addr) (h0 : Heap) (n0 : Nat) (Z0 : n0 ≤ h0.size) (E_a1 : Exa Z h0 a1 "com/example/imhotep/imhotep/core/Trigger") (F_ordinal_a1 : Fld Z h0 a1 "java/lang/Enum" "ordinal" "I" (.int (9 : Int32))) (S_RUNNING : Sta Z h0 "com/example/imhotep/imhotep/core/TaskState" "RUNNING" "Lcom/example/imhotep/imhotep/core/TaskState;" (.ref r1)) (S_REVIEW : Sta Z h0 "com/example/imhotep/imhotep/core/TaskState" "REVIEW" "Lcom/example/imhotep/imhotep/core/TaskState;" (.ref r3)) (S_PENDING : Sta Z h0 "com/example/imhotep/imhotep/core/TaskState" "PENDING" "Lcom/example/imhotep/imhotep/core/TaskState;" (.ref r0)) (S_FAILED : Sta Z h0 "com/example/imhotep/imhotep/core/TaskState" "FAILED" "Lcom/example/imhotep/imhotep/core/TaskState;" (.ref r5)) (S_DONE : Sta Z h0 "com/example/imhotep/imhotep/core/TaskState" "DONE" "Lcom/example/imhotep/imhotep/core/TaskState;" (.ref r4)) (E_r1 : Exa Z h0 r1 "com/example/imhotep/imhotep/core/TaskState") (E_r3 : Exa Z h0 r3 "com/example/imhotep/imhotep/core/TaskState") (ne_r1_r3 : r1 ≠ r3) (ne_r1_r0 : r1 ≠ r0) (ne_r1_r5 : r1 ≠ r5) (ne_r1_r4 : r1 ≠ r4) (ne_r3_r0 : r3 ≠ r0) (ne_r3_r5 : r3 ≠ r5) (ne_r3_r4 : r3 ≠ r4) :
    OwnMet l Z (⟨"com/example/imhotep/imhotep/core/Trigger", "allows", "(Lcom/example/imhotep/imhotep/core/TaskState;Lcom/example/imhotep/imhotep/core/TaskState;)Z"⟩ : MethodName) prog_36_method_6_code 3 (some .boolean) ({ frames := 2, cells := 0, slots := 0, locals := 40 } : Room) #[(.ref a1), (.ref r3), (.ref r1)] h0 n0 (fun v h => v = some (.int (1 : Int32)) ∧ h0 = h) := by
  refine own_body own_pn1_9_r3 ?_
  intro p e s m below meth c s₁ RR X0
  refine own_enter (own_ef1_9_r3 m a1 r3 r1) ?_
  refine own_aloadN X0 own_d1_0 (pc' := 1) rfl rfl rfl ?_
  refine own_callU (a := a1) (argsL := []) X0 own_d1_1 (y := (⟨"com/example/imhotep/imhotep/core/Trigger", "ordinal", "()I"⟩ : MethodName)) (z := (⟨"java/lang/Enum", "ordinal", "()I"⟩ : MethodName)) (by decide) (hw _ (List.mem_of_getElem? (i := 35) rfl)) (hw _ (List.mem_of_getElem? (i := 36) rfl)) (hw _ (List.mem_of_getElem? (i := 37) rfl)) (hw _ (List.mem_of_getElem? (i := 39) rfl)) (hw _ (List.mem_of_getElem? (i := 38) rfl)) (hw _ (List.mem_of_getElem? (i := 41) rfl)) (hw _ (List.mem_of_getElem? (i := 40) rfl)) E_a1 (own_rm2 l Z a0 hw a1 (9 : Int32) h0 n0 Z0 F_ordinal_a1) own_pd1 rfl (S := []) rfl (pc' := 4) rfl rfl (W := 0) (Nat.le_of_eq rfl) (by decide) (by decide) (by decide) (by decide) ?_
  intro T1 h1 v1_ X1 q1_
  obtain ⟨rfl, rfl⟩ := q1_
  show OwnGo p e below (T1.setTop (mkF m 4 #[.val (.ref a1), .val (.ref r3), .val (.ref r1)] [(.int (9 : Int32))])) RR
  refine own_tsw X1 own_d1_4 (o := 190) (by decide) rfl (pc' := 194) (by decide) (by decide) ?_
  refine own_aloadN X1 own_d1_194 (pc' := 195) rfl rfl rfl ?_
  refine own_getS X1 own_d1_195 (hw _ (List.mem_of_getElem? (i := 67) rfl)) Via.refl S_REVIEW (pc' := 198) rfl ?_
  intro T2 X2
  refine own_acN X2 own_d1_198 (own_teqA ((rfl : r3 = r3))).2 (pc' := 201) rfl ?_
  refine own_aloadN X2 own_d1_201 (pc' := 202) rfl rfl rfl ?_
  refine own_getS X2 own_d1_202 (hw _ (List.mem_of_getElem? (i := 66) rfl)) Via.refl S_RUNNING (pc' := 205) rfl ?_
  intro T3 X3
  refine own_acN X3 own_d1_205 (own_teqA ((rfl : r1 = r1))).2 (pc' := 208) rfl ?_
  refine own_iconst X3 own_d1_208 (pc' := 209) rfl (v := (1 : Int32)) (by decide) ?_
  refine own_goto X3 own_d1_209 (pc' := 213) (by decide) (by decide) ?_
  exact own_retZ X3 own_d1_213 (by decide) ⟨rfl, rfl⟩ (by decide) (by decide)
theorem own_d3_0 : decode prog_36_method_7_code 0 = .ok (.aload_n 0, 1) := by decide +kernel
theorem own_d3_1 : decode prog_36_method_7_code 1 = .ok (.getstatic 25, 3) := by decide +kernel
theorem own_d3_4 : decode prog_36_method_7_code 4 = .ok (.if_acmp .eq 17, 3) := by decide +kernel
theorem own_d3_7 : decode prog_36_method_7_code 7 = .ok (.aload_n 0, 1) := by decide +kernel
theorem own_d3_8 : decode prog_36_method_7_code 8 = .ok (.getstatic 28, 3) := by decide +kernel
theorem own_d3_11 : decode prog_36_method_7_code 11 = .ok (.if_acmp .eq 10, 3) := by decide +kernel
theorem own_d3_14 : decode prog_36_method_7_code 14 = .ok (.aload_n 0, 1) := by decide +kernel
theorem own_d3_15 : decode prog_36_method_7_code 15 = .ok (.getstatic 31, 3) := by decide +kernel
theorem own_d3_18 : decode prog_36_method_7_code 18 = .ok (.if_acmp .ne 7, 3) := by decide +kernel
theorem own_d3_21 : decode prog_36_method_7_code 21 = .ok (.iconst 1, 1) := by decide +kernel
theorem own_d3_22 : decode prog_36_method_7_code 22 = .ok (.goto 4, 3) := by decide +kernel
theorem own_d3_25 : decode prog_36_method_7_code 25 = .ok (.iconst 0, 1) := by decide +kernel
theorem own_d3_26 : decode prog_36_method_7_code 26 = .ok (.ireturn, 1) := by decide +kernel
theorem own_ef3_7 (m : MethodId) (x0 : Addr) : entryFrame m #[(.ref x0)] 1 = mkF m 0 #[.val (.ref x0)] [] := by first | (simp [entryFrame, mkF, argsToLocals, Value.category]; done) | rfl
theorem own_pn3_7 : plainFor (⟨"com/example/imhotep/imhotep/core/Trigger", "namesPhase", "()Z"⟩ : MethodName) = true := by first | exact plainFor_of_name (by first | (simp [plainName, overriddenIn]; done) | decide +kernel) | exact Jvm.Free.JP.mathPlain rfl (by decide +kernel)
set_option maxRecDepth 65536 in
set_option maxHeartbeats 40000000 in
theorem own_rm3_7 (l : Launch) (Z : State) (a0 : Array Value) (hw : ∀ d ∈ tables_1, d.before a0 Z = true) (d7 : Addr) (d8 : Addr) (d9 : Addr) (h0 : Heap) (n0 : Nat) (Z0 : n0 ≤ h0.size) (S_PHASE_COMPLETE : Sta Z h0 "com/example/imhotep/imhotep/core/Trigger" "PHASE_COMPLETE" "Lcom/example/imhotep/imhotep/core/Trigger;" (.ref d7)) (S_APPROVED : Sta Z h0 "com/example/imhotep/imhotep/core/Trigger" "APPROVED" "Lcom/example/imhotep/imhotep/core/Trigger;" (.ref d8)) (S_CHANGES_REQUESTED : Sta Z h0 "com/example/imhotep/imhotep/core/Trigger" "CHANGES_REQUESTED" "Lcom/example/imhotep/imhotep/core/Trigger;" (.ref d9)) :
    OwnMet l Z (⟨"com/example/imhotep/imhotep/core/Trigger", "namesPhase", "()Z"⟩ : MethodName) prog_36_method_7_code 1 (some .boolean) ({ frames := 0, cells := 0, slots := 0, locals := 0 } : Room) #[(.ref d7)] h0 n0 (fun v h => v = some (.int (1 : Int32)) ∧ h0 = h) := by
  refine own_body own_pn3_7 ?_
  intro p e s m below meth c s₁ RR X0
  refine own_enter (own_ef3_7 m d7) ?_
  refine own_aloadN X0 own_d3_0 (pc' := 1) rfl rfl rfl ?_
  refine own_getS X0 own_d3_1 (hw _ (List.mem_of_getElem? (i := 49) rfl)) Via.refl S_PHASE_COMPLETE (pc' := 4) rfl ?_
  intro T1 X1
  refine own_acY X1 own_d3_4 (own_teqA ((rfl : d7 = d7))).1 (pc' := 21) (by decide) (by decide) ?_
  refine own_iconst X1 own_d3_21 (pc' := 22) rfl (v := (1 : Int32)) (by decide) ?_
  refine own_goto X1 own_d3_22 (pc' := 26) (by decide) (by decide) ?_
  exact own_retZ X1 own_d3_26 (by decide) ⟨rfl, rfl⟩ (by decide) (by decide)
theorem own_ef3_8 (m : MethodId) (x0 : Addr) : entryFrame m #[(.ref x0)] 1 = mkF m 0 #[.val (.ref x0)] [] := by first | (simp [entryFrame, mkF, argsToLocals, Value.category]; done) | rfl
theorem own_pn3_8 : plainFor (⟨"com/example/imhotep/imhotep/core/Trigger", "namesPhase", "()Z"⟩ : MethodName) = true := by first | exact plainFor_of_name (by first | (simp [plainName, overriddenIn]; done) | decide +kernel) | exact Jvm.Free.JP.mathPlain rfl (by decide +kernel)
set_option maxRecDepth 65536 in
set_option maxHeartbeats 40000000 in
theorem own_rm3_8 (l : Launch) (Z : State) (a0 : Array Value) (hw : ∀ d ∈ tables_1, d.before a0 Z = true) (d7 : Addr) (d8 : Addr) (d9 : Addr) (h0 : Heap) (n0 : Nat) (Z0 : n0 ≤ h0.size) (S_PHASE_COMPLETE : Sta Z h0 "com/example/imhotep/imhotep/core/Trigger" "PHASE_COMPLETE" "Lcom/example/imhotep/imhotep/core/Trigger;" (.ref d7)) (S_APPROVED : Sta Z h0 "com/example/imhotep/imhotep/core/Trigger" "APPROVED" "Lcom/example/imhotep/imhotep/core/Trigger;" (.ref d8)) (S_CHANGES_REQUESTED : Sta Z h0 "com/example/imhotep/imhotep/core/Trigger" "CHANGES_REQUESTED" "Lcom/example/imhotep/imhotep/core/Trigger;" (.ref d9)) (ne_d8_d7 : d8 ≠ d7) :
    OwnMet l Z (⟨"com/example/imhotep/imhotep/core/Trigger", "namesPhase", "()Z"⟩ : MethodName) prog_36_method_7_code 1 (some .boolean) ({ frames := 0, cells := 0, slots := 0, locals := 0 } : Room) #[(.ref d8)] h0 n0 (fun v h => v = some (.int (1 : Int32)) ∧ h0 = h) := by
  refine own_body own_pn3_8 ?_
  intro p e s m below meth c s₁ RR X0
  refine own_enter (own_ef3_8 m d8) ?_
  refine own_aloadN X0 own_d3_0 (pc' := 1) rfl rfl rfl ?_
  refine own_getS X0 own_d3_1 (hw _ (List.mem_of_getElem? (i := 49) rfl)) Via.refl S_PHASE_COMPLETE (pc' := 4) rfl ?_
  intro T1 X1
  refine own_acN X1 own_d3_4 (own_feqA ((ne_d8_d7 : ¬ (d8 = d7)))).1 (pc' := 7) rfl ?_
  refine own_aloadN X1 own_d3_7 (pc' := 8) rfl rfl rfl ?_
  refine own_getS X1 own_d3_8 (hw _ (List.mem_of_getElem? (i := 50) rfl)) Via.refl S_APPROVED (pc' := 11) rfl ?_
  intro T2 X2
  refine own_acY X2 own_d3_11 (own_teqA ((rfl : d8 = d8))).1 (pc' := 21) (by decide) (by decide) ?_
  refine own_iconst X2 own_d3_21 (pc' := 22) rfl (v := (1 : Int32)) (by decide) ?_
  refine own_goto X2 own_d3_22 (pc' := 26) (by decide) (by decide) ?_
  exact own_retZ X2 own_d3_26 (by decide) ⟨rfl, rfl⟩ (by decide) (by decide)
theorem own_ef3_9 (m : MethodId) (x0 : Addr) : entryFrame m #[(.ref x0)] 1 = mkF m 0 #[.val (.ref x0)] [] := by first | (simp [entryFrame, mkF, argsToLocals, Value.category]; done) | rfl
theorem own_pn3_9 : plainFor (⟨"com/example/imhotep/imhotep/core/Trigger", "namesPhase", "()Z"⟩ : MethodName) = true := by first | exact plainFor_of_name (by first | (simp [plainName, overriddenIn]; done) | decide +kernel) | exact Jvm.Free.JP.mathPlain rfl (by decide +kernel)
set_option maxRecDepth 65536 in
set_option maxHeartbeats 40000000 in
theorem own_rm3_9 (l : Launch) (Z : State) (a0 : Array Value) (hw : ∀ d ∈ tables_1, d.before a0 Z = true) (d7 : Addr) (d8 : Addr) (d9 : Addr) (h0 : Heap) (n0 : Nat) (Z0 : n0 ≤ h0.size) (S_PHASE_COMPLETE : Sta Z h0 "com/example/imhotep/imhotep/core/Trigger" "PHASE_COMPLETE" "Lcom/example/imhotep/imhotep/core/Trigger;" (.ref d7)) (S_APPROVED : Sta Z h0 "com/example/imhotep/imhotep/core/Trigger" "APPROVED" "Lcom/example/imhotep/imhotep/core/Trigger;" (.ref d8)) (S_CHANGES_REQUESTED : Sta Z h0 "com/example/imhotep/imhotep/core/Trigger" "CHANGES_REQUESTED" "Lcom/example/imhotep/imhotep/core/Trigger;" (.ref d9)) (ne_d9_d7 : d9 ≠ d7) (ne_d9_d8 : d9 ≠ d8) :
    OwnMet l Z (⟨"com/example/imhotep/imhotep/core/Trigger", "namesPhase", "()Z"⟩ : MethodName) prog_36_method_7_code 1 (some .boolean) ({ frames := 0, cells := 0, slots := 0, locals := 0 } : Room) #[(.ref d9)] h0 n0 (fun v h => v = some (.int (1 : Int32)) ∧ h0 = h) := by
  refine own_body own_pn3_9 ?_
  intro p e s m below meth c s₁ RR X0
  refine own_enter (own_ef3_9 m d9) ?_
  refine own_aloadN X0 own_d3_0 (pc' := 1) rfl rfl rfl ?_
  refine own_getS X0 own_d3_1 (hw _ (List.mem_of_getElem? (i := 49) rfl)) Via.refl S_PHASE_COMPLETE (pc' := 4) rfl ?_
  intro T1 X1
  refine own_acN X1 own_d3_4 (own_feqA ((ne_d9_d7 : ¬ (d9 = d7)))).1 (pc' := 7) rfl ?_
  refine own_aloadN X1 own_d3_7 (pc' := 8) rfl rfl rfl ?_
  refine own_getS X1 own_d3_8 (hw _ (List.mem_of_getElem? (i := 50) rfl)) Via.refl S_APPROVED (pc' := 11) rfl ?_
  intro T2 X2
  refine own_acN X2 own_d3_11 (own_feqA ((ne_d9_d8 : ¬ (d9 = d8)))).1 (pc' := 14) rfl ?_
  refine own_aloadN X2 own_d3_14 (pc' := 15) rfl rfl rfl ?_
  refine own_getS X2 own_d3_15 (hw _ (List.mem_of_getElem? (i := 51) rfl)) Via.refl S_CHANGES_REQUESTED (pc' := 18) rfl ?_
  intro T3 X3
  refine own_acN X3 own_d3_18 (own_teqA ((rfl : d9 = d9))).2 (pc' := 21) rfl ?_
  refine own_iconst X3 own_d3_21 (pc' := 22) rfl (v := (1 : Int32)) (by decide) ?_
  refine own_goto X3 own_d3_22 (pc' := 26) (by decide) (by decide) ?_
  exact own_retZ X3 own_d3_26 (by decide) ⟨rfl, rfl⟩ (by decide) (by decide)
theorem own_ef3_0 (m : MethodId) (x0 : Addr) : entryFrame m #[(.ref x0)] 1 = mkF m 0 #[.val (.ref x0)] [] := by first | (simp [entryFrame, mkF, argsToLocals, Value.category]; done) | rfl
theorem own_pn3_0 : plainFor (⟨"com/example/imhotep/imhotep/core/Trigger", "namesPhase", "()Z"⟩ : MethodName) = true := by first | exact plainFor_of_name (by first | (simp [plainName, overriddenIn]; done) | decide +kernel) | exact Jvm.Free.JP.mathPlain rfl (by decide +kernel)
set_option maxRecDepth 65536 in
set_option maxHeartbeats 40000000 in
theorem own_rm3_0 (l : Launch) (Z : State) (a0 : Array Value) (hw : ∀ d ∈ tables_1, d.before a0 Z = true) (a1 : Addr) (d7 : Addr) (d8 : Addr) (d9 : Addr) (h0 : Heap) (n0 : Nat) (Z0 : n0 ≤ h0.size) (S_PHASE_COMPLETE : Sta Z h0 "com/example/imhotep/imhotep/core/Trigger" "PHASE_COMPLETE" "Lcom/example/imhotep/imhotep/core/Trigger;" (.ref d7)) (S_APPROVED : Sta Z h0 "com/example/imhotep/imhotep/core/Trigger" "APPROVED" "Lcom/example/imhotep/imhotep/core/Trigger;" (.ref d8)) (S_CHANGES_REQUESTED : Sta Z h0 "com/example/imhotep/imhotep/core/Trigger" "CHANGES_REQUESTED" "Lcom/example/imhotep/imhotep/core/Trigger;" (.ref d9)) (ne_a1_d7 : a1 ≠ d7) (ne_a1_d8 : a1 ≠ d8) (ne_a1_d9 : a1 ≠ d9) :
    OwnMet l Z (⟨"com/example/imhotep/imhotep/core/Trigger", "namesPhase", "()Z"⟩ : MethodName) prog_36_method_7_code 1 (some .boolean) ({ frames := 0, cells := 0, slots := 0, locals := 0 } : Room) #[(.ref a1)] h0 n0 (fun v h => v = some (.int (0 : Int32)) ∧ h0 = h) := by
  refine own_body own_pn3_0 ?_
  intro p e s m below meth c s₁ RR X0
  refine own_enter (own_ef3_0 m a1) ?_
  refine own_aloadN X0 own_d3_0 (pc' := 1) rfl rfl rfl ?_
  refine own_getS X0 own_d3_1 (hw _ (List.mem_of_getElem? (i := 49) rfl)) Via.refl S_PHASE_COMPLETE (pc' := 4) rfl ?_
  intro T1 X1
  refine own_acN X1 own_d3_4 (own_feqA ((ne_a1_d7 : ¬ (a1 = d7)))).1 (pc' := 7) rfl ?_
  refine own_aloadN X1 own_d3_7 (pc' := 8) rfl rfl rfl ?_
  refine own_getS X1 own_d3_8 (hw _ (List.mem_of_getElem? (i := 50) rfl)) Via.refl S_APPROVED (pc' := 11) rfl ?_
  intro T2 X2
  refine own_acN X2 own_d3_11 (own_feqA ((ne_a1_d8 : ¬ (a1 = d8)))).1 (pc' := 14) rfl ?_
  refine own_aloadN X2 own_d3_14 (pc' := 15) rfl rfl rfl ?_
  refine own_getS X2 own_d3_15 (hw _ (List.mem_of_getElem? (i := 51) rfl)) Via.refl S_CHANGES_REQUESTED (pc' := 18) rfl ?_
  intro T3 X3
  refine own_acY X3 own_d3_18 (own_feqA ((ne_a1_d9 : ¬ (a1 = d9)))).2 (pc' := 25) (by decide) (by decide) ?_
  refine own_iconst X3 own_d3_25 (pc' := 26) rfl (v := (0 : Int32)) (by decide) ?_
  exact own_retZ X3 own_d3_26 (by decide) ⟨rfl, rfl⟩ (by decide) (by decide)
theorem own_p10 (x : Int32) : ((x &&& (2147483647 : Int32)) % (10 : Int32)) = 0 ∨ ((x &&& (2147483647 : Int32)) % (10 : Int32)) = 1 ∨ ((x &&& (2147483647 : Int32)) % (10 : Int32)) = 2 ∨ ((x &&& (2147483647 : Int32)) % (10 : Int32)) = 3 ∨ ((x &&& (2147483647 : Int32)) % (10 : Int32)) = 4 ∨ ((x &&& (2147483647 : Int32)) % (10 : Int32)) = 5 ∨ ((x &&& (2147483647 : Int32)) % (10 : Int32)) = 6 ∨ ((x &&& (2147483647 : Int32)) % (10 : Int32)) = 7 ∨ ((x &&& (2147483647 : Int32)) % (10 : Int32)) = 8 ∨ ((x &&& (2147483647 : Int32)) % (10 : Int32)) = 9 := by
  have h1 := own_and x 2147483647 (by decide)
  have h2 := (Jvm.RoadKit.c_irem (x &&& (2147483647 : Int32)) 10 10 rfl).1 h1.1
  generalize hy : (x &&& (2147483647 : Int32)) % (10 : Int32) = y at *
  simp only [← Int32.toInt_inj]
  have e0 : (0 : Int32).toInt = 0 := rfl
  have e1 : (1 : Int32).toInt = 1 := rfl
  have e2 : (2 : Int32).toInt = 2 := rfl
  have e3 : (3 : Int32).toInt = 3 := rfl
  have e4 : (4 : Int32).toInt = 4 := rfl
  have e5 : (5 : Int32).toInt = 5 := rfl
  have e6 : (6 : Int32).toInt = 6 := rfl
  have e7 : (7 : Int32).toInt = 7 := rfl
  have e8 : (8 : Int32).toInt = 8 := rfl
  have e9 : (9 : Int32).toInt = 9 := rfl
  omega
theorem own_ef0 (m : MethodId) (x0 : Int32) : entryFrame m #[(.int x0)] maxLocals = mkF m 0 #[.val (.int x0), .unset, .unset, .unset, .unset, .unset] [] := by first | (simp [entryFrame, mkF, argsToLocals, Value.category, maxLocals]; done) | rfl
theorem own_pn0 : plainFor x = true := by first | exact plainFor_of_name (by first | (simp [plainName, overriddenIn]; done) | decide +kernel) | exact Jvm.Free.JP.mathPlain rfl (by decide +kernel)
set_option maxRecDepth 65536 in
set_option maxHeartbeats 40000000 in
theorem own_rm0 (l : Launch) (Z : State) (a0 : Array Value) (hw : ∀ d ∈ tables_1, d.before a0 Z = true) (p1 : Int32) (d0 : Addr) (d1 : Addr) (d2 : Addr) (d3 : Addr) (d4 : Addr) (d5 : Addr) (d6 : Addr) (d7 : Addr) (d8 : Addr) (d9 : Addr) (r1 : Addr) (r3 : Addr) (r0 : Addr) (r5 : Addr) (r4 : Addr) (h0 : Heap) (n0 : Nat) (Z0 : n0 ≤ h0.size) (S_ADD : Sta Z h0 "com/example/imhotep/imhotep/core/Trigger" "ADD" "Lcom/example/imhotep/imhotep/core/Trigger;" (.ref d0)) (S_START : Sta Z h0 "com/example/imhotep/imhotep/core/Trigger" "START" "Lcom/example/imhotep/imhotep/core/Trigger;" (.ref d1)) (S_EXIT : Sta Z h0 "com/example/imhotep/imhotep/core/Trigger" "EXIT" "Lcom/example/imhotep/imhotep/core/Trigger;" (.ref d2)) (S_HOLDER_DIED : Sta Z h0 "com/example/imhotep/imhotep/core/Trigger" "HOLDER_DIED" "Lcom/example/imhotep/imhotep/core/Trigger;" (.ref d3)) (S_HEARTBEAT_LAPSED : Sta Z h0 "com/example/imhotep/imhotep/core/Trigger" "HEARTBEAT_LAPSED" "Lcom/example/imhotep/imhotep/core/Trigger;" (.ref d4)) (S_SUPERSEDED : Sta Z h0 "com/example/imhotep/imhotep/core/Trigger" "SUPERSEDED" "Lcom/example/imhotep/imhotep/core/Trigger;" (.ref d5)) (S_TIME_LIMIT : Sta Z h0 "com/example/imhotep/imhotep/core/Trigger" "TIME_LIMIT" "Lcom/example/imhotep/imhotep/core/Trigger;" (.ref d6)) (S_PHASE_COMPLETE : Sta Z h0 "com/example/imhotep/imhotep/core/Trigger" "PHASE_COMPLETE" "Lcom/example/imhotep/imhotep/core/Trigger;" (.ref d7)) (S_APPROVED : Sta Z h0 "com/example/imhotep/imhotep/core/Trigger" "APPROVED" "Lcom/example/imhotep/imhotep/core/Trigger;" (.ref d8)) (S_CHANGES_REQUESTED : Sta Z h0 "com/example/imhotep/imhotep/core/Trigger" "CHANGES_REQUESTED" "Lcom/example/imhotep/imhotep/core/Trigger;" (.ref d9)) (S_RUNNING : Sta Z h0 "com/example/imhotep/imhotep/core/TaskState" "RUNNING" "Lcom/example/imhotep/imhotep/core/TaskState;" (.ref r1)) (S_REVIEW : Sta Z h0 "com/example/imhotep/imhotep/core/TaskState" "REVIEW" "Lcom/example/imhotep/imhotep/core/TaskState;" (.ref r3)) (S_PENDING : Sta Z h0 "com/example/imhotep/imhotep/core/TaskState" "PENDING" "Lcom/example/imhotep/imhotep/core/TaskState;" (.ref r0)) (S_FAILED : Sta Z h0 "com/example/imhotep/imhotep/core/TaskState" "FAILED" "Lcom/example/imhotep/imhotep/core/TaskState;" (.ref r5)) (S_DONE : Sta Z h0 "com/example/imhotep/imhotep/core/TaskState" "DONE" "Lcom/example/imhotep/imhotep/core/TaskState;" (.ref r4)) (E_d0 : Exa Z h0 d0 "com/example/imhotep/imhotep/core/Trigger") (E_d1 : Exa Z h0 d1 "com/example/imhotep/imhotep/core/Trigger") (E_d2 : Exa Z h0 d2 "com/example/imhotep/imhotep/core/Trigger") (E_d3 : Exa Z h0 d3 "com/example/imhotep/imhotep/core/Trigger") (E_d4 : Exa Z h0 d4 "com/example/imhotep/imhotep/core/Trigger") (E_d5 : Exa Z h0 d5 "com/example/imhotep/imhotep/core/Trigger") (E_d6 : Exa Z h0 d6 "com/example/imhotep/imhotep/core/Trigger") (E_d7 : Exa Z h0 d7 "com/example/imhotep/imhotep/core/Trigger") (E_d8 : Exa Z h0 d8 "com/example/imhotep/imhotep/core/Trigger") (E_d9 : Exa Z h0 d9 "com/example/imhotep/imhotep/core/Trigger") (E_r1 : Exa Z h0 r1 "com/example/imhotep/imhotep/core/TaskState") (E_r3 : Exa Z h0 r3 "com/example/imhotep/imhotep/core/TaskState") (F_ordinal_d0 : Fld Z h0 d0 "java/lang/Enum" "ordinal" "I" (.int (0 : Int32))) (F_ordinal_d1 : Fld Z h0 d1 "java/lang/Enum" "ordinal" "I" (.int (1 : Int32))) (F_ordinal_d2 : Fld Z h0 d2 "java/lang/Enum" "ordinal" "I" (.int (2 : Int32))) (F_ordinal_d3 : Fld Z h0 d3 "java/lang/Enum" "ordinal" "I" (.int (3 : Int32))) (F_ordinal_d4 : Fld Z h0 d4 "java/lang/Enum" "ordinal" "I" (.int (4 : Int32))) (F_ordinal_d5 : Fld Z h0 d5 "java/lang/Enum" "ordinal" "I" (.int (5 : Int32))) (F_ordinal_d6 : Fld Z h0 d6 "java/lang/Enum" "ordinal" "I" (.int (6 : Int32))) (F_ordinal_d7 : Fld Z h0 d7 "java/lang/Enum" "ordinal" "I" (.int (7 : Int32))) (F_ordinal_d8 : Fld Z h0 d8 "java/lang/Enum" "ordinal" "I" (.int (8 : Int32))) (F_ordinal_d9 : Fld Z h0 d9 "java/lang/Enum" "ordinal" "I" (.int (9 : Int32))) (ne_r1_r3 : r1 ≠ r3) (ne_r1_r0 : r1 ≠ r0) (ne_r1_r5 : r1 ≠ r5) (ne_r1_r4 : r1 ≠ r4) (ne_r3_r0 : r3 ≠ r0) (ne_r3_r5 : r3 ≠ r5) (ne_r3_r4 : r3 ≠ r4) (ne_d0_d7 : d0 ≠ d7) (ne_d1_d7 : d1 ≠ d7) (ne_d2_d7 : d2 ≠ d7) (ne_d3_d7 : d3 ≠ d7) (ne_d4_d7 : d4 ≠ d7) (ne_d5_d7 : d5 ≠ d7) (ne_d6_d7 : d6 ≠ d7) (ne_d0_d8 : d0 ≠ d8) (ne_d1_d8 : d1 ≠ d8) (ne_d2_d8 : d2 ≠ d8) (ne_d3_d8 : d3 ≠ d8) (ne_d4_d8 : d4 ≠ d8) (ne_d5_d8 : d5 ≠ d8) (ne_d6_d8 : d6 ≠ d8) (ne_d7_d8 : d7 ≠ d8) (ne_d0_d9 : d0 ≠ d9) (ne_d1_d9 : d1 ≠ d9) (ne_d2_d9 : d2 ≠ d9) (ne_d3_d9 : d3 ≠ d9) (ne_d4_d9 : d4 ≠ d9) (ne_d5_d9 : d5 ≠ d9) (ne_d6_d9 : d6 ≠ d9) (ne_d7_d9 : d7 ≠ d9) (ne_d8_d9 : d8 ≠ d9) :
    OwnMet l Z x code maxLocals ret room_1 #[(.int p1)] h0 n0 (fun v h => v = some (.int 1)) := by
  refine own_body own_pn0 ?_
  intro p e s m below meth c s₁ RR X0
  refine own_enter (own_ef0 m p1) ?_
  refine own_bipush X0 at_0 (pc' := 2) rfl (v := (10 : Int32)) (by decide) ?_
  refine own_anew X0 at_2 (hw _ (List.mem_of_getElem? (i := 0) rfl)) (hw _ (List.mem_of_getElem? (i := 1) rfl)) (pc' := 5) rfl (by decide) (cap := 10) (by decide) (by decide) (by decide) (by decide) ?_
  intro T1 h1 b1 hb1 X1 E1 B1
  have g_b1 : n0 ≤ b1 := Nat.le_trans Z0 (Nat.le_of_eq hb1.symm)
  have ne_d0_b1 : d0 ≠ b1 := Nat.ne_of_lt (Nat.lt_of_lt_of_le (E_d0).lt (Nat.le_of_eq hb1.symm))
  have ne_d1_b1 : d1 ≠ b1 := Nat.ne_of_lt (Nat.lt_of_lt_of_le (E_d1).lt (Nat.le_of_eq hb1.symm))
  have ne_d2_b1 : d2 ≠ b1 := Nat.ne_of_lt (Nat.lt_of_lt_of_le (E_d2).lt (Nat.le_of_eq hb1.symm))
  have ne_d3_b1 : d3 ≠ b1 := Nat.ne_of_lt (Nat.lt_of_lt_of_le (E_d3).lt (Nat.le_of_eq hb1.symm))
  have ne_d4_b1 : d4 ≠ b1 := Nat.ne_of_lt (Nat.lt_of_lt_of_le (E_d4).lt (Nat.le_of_eq hb1.symm))
  have ne_d5_b1 : d5 ≠ b1 := Nat.ne_of_lt (Nat.lt_of_lt_of_le (E_d5).lt (Nat.le_of_eq hb1.symm))
  have ne_d6_b1 : d6 ≠ b1 := Nat.ne_of_lt (Nat.lt_of_lt_of_le (E_d6).lt (Nat.le_of_eq hb1.symm))
  have ne_d7_b1 : d7 ≠ b1 := Nat.ne_of_lt (Nat.lt_of_lt_of_le (E_d7).lt (Nat.le_of_eq hb1.symm))
  have ne_d8_b1 : d8 ≠ b1 := Nat.ne_of_lt (Nat.lt_of_lt_of_le (E_d8).lt (Nat.le_of_eq hb1.symm))
  have ne_d9_b1 : d9 ≠ b1 := Nat.ne_of_lt (Nat.lt_of_lt_of_le (E_d9).lt (Nat.le_of_eq hb1.symm))
  have ne_r1_b1 : r1 ≠ b1 := Nat.ne_of_lt (Nat.lt_of_lt_of_le (E_r1).lt (Nat.le_of_eq hb1.symm))
  have ne_r3_b1 : r3 ≠ b1 := Nat.ne_of_lt (Nat.lt_of_lt_of_le (E_r3).lt (Nat.le_of_eq hb1.symm))
  have S_ADD_1 := (S_ADD).ext E1
  have S_START_1 := (S_START).ext E1
  have S_EXIT_1 := (S_EXIT).ext E1
  have S_HOLDER_DIED_1 := (S_HOLDER_DIED).ext E1
  have S_HEARTBEAT_LAPSED_1 := (S_HEARTBEAT_LAPSED).ext E1
  have S_SUPERSEDED_1 := (S_SUPERSEDED).ext E1
  have S_TIME_LIMIT_1 := (S_TIME_LIMIT).ext E1
  have S_PHASE_COMPLETE_1 := (S_PHASE_COMPLETE).ext E1
  have S_APPROVED_1 := (S_APPROVED).ext E1
  have S_CHANGES_REQUESTED_1 := (S_CHANGES_REQUESTED).ext E1
  have S_RUNNING_1 := (S_RUNNING).ext E1
  have S_REVIEW_1 := (S_REVIEW).ext E1
  have S_PENDING_1 := (S_PENDING).ext E1
  have S_FAILED_1 := (S_FAILED).ext E1
  have S_DONE_1 := (S_DONE).ext E1
  have E_d0_1 := (E_d0).ext E1
  have E_d1_1 := (E_d1).ext E1
  have E_d2_1 := (E_d2).ext E1
  have E_d3_1 := (E_d3).ext E1
  have E_d4_1 := (E_d4).ext E1
  have E_d5_1 := (E_d5).ext E1
  have E_d6_1 := (E_d6).ext E1
  have E_d7_1 := (E_d7).ext E1
  have E_d8_1 := (E_d8).ext E1
  have E_d9_1 := (E_d9).ext E1
  have E_r1_1 := (E_r1).ext E1
  have E_r3_1 := (E_r3).ext E1
  have F_ordinal_d0_1 := (F_ordinal_d0).ext E1
  have F_ordinal_d1_1 := (F_ordinal_d1).ext E1
  have F_ordinal_d2_1 := (F_ordinal_d2).ext E1
  have F_ordinal_d3_1 := (F_ordinal_d3).ext E1
  have F_ordinal_d4_1 := (F_ordinal_d4).ext E1
  have F_ordinal_d5_1 := (F_ordinal_d5).ext E1
  have F_ordinal_d6_1 := (F_ordinal_d6).ext E1
  have F_ordinal_d7_1 := (F_ordinal_d7).ext E1
  have F_ordinal_d8_1 := (F_ordinal_d8).ext E1
  have F_ordinal_d9_1 := (F_ordinal_d9).ext E1
  have Z1 : n0 ≤ h1.size := Nat.le_trans Z0 E1.1
  have V_b1 : OwnArR Z h1 b1 "com/example/imhotep/imhotep/core/Trigger" [.null, .null, .null, .null, .null, .null, .null, .null, .null, .null] := B1
  refine own_dup X1 at_5 (pc' := 6) rfl rfl ?_
  refine own_iconst X1 at_6 (pc' := 7) rfl (v := (0 : Int32)) (by decide) ?_
  refine own_getS X1 at_7 (hw _ (List.mem_of_getElem? (i := 2) rfl)) Via.refl S_ADD_1 (pc' := 10) rfl ?_
  intro T2 X2
  refine own_aastore X2 at_10 V_b1 (Ins.self E_d0_1) (by decide) (Nat.le_of_ble_eq_true rfl) g_b1 (pc' := 11) rfl ?_
  intro T3 h3 X3 W3 B3
  have S_ADD_3 := (S_ADD_1).wr W3
  have S_START_3 := (S_START_1).wr W3
  have S_EXIT_3 := (S_EXIT_1).wr W3
  have S_HOLDER_DIED_3 := (S_HOLDER_DIED_1).wr W3
  have S_HEARTBEAT_LAPSED_3 := (S_HEARTBEAT_LAPSED_1).wr W3
  have S_SUPERSEDED_3 := (S_SUPERSEDED_1).wr W3
  have S_TIME_LIMIT_3 := (S_TIME_LIMIT_1).wr W3
  have S_PHASE_COMPLETE_3 := (S_PHASE_COMPLETE_1).wr W3
  have S_APPROVED_3 := (S_APPROVED_1).wr W3
  have S_CHANGES_REQUESTED_3 := (S_CHANGES_REQUESTED_1).wr W3
  have S_RUNNING_3 := (S_RUNNING_1).wr W3
  have S_REVIEW_3 := (S_REVIEW_1).wr W3
  have S_PENDING_3 := (S_PENDING_1).wr W3
  have S_FAILED_3 := (S_FAILED_1).wr W3
  have S_DONE_3 := (S_DONE_1).wr W3
  have E_d0_3 := (E_d0_1).wr W3
  have E_d1_3 := (E_d1_1).wr W3
  have E_d2_3 := (E_d2_1).wr W3
  have E_d3_3 := (E_d3_1).wr W3
  have E_d4_3 := (E_d4_1).wr W3
  have E_d5_3 := (E_d5_1).wr W3
  have E_d6_3 := (E_d6_1).wr W3
  have E_d7_3 := (E_d7_1).wr W3
  have E_d8_3 := (E_d8_1).wr W3
  have E_d9_3 := (E_d9_1).wr W3
  have E_r1_3 := (E_r1_1).wr W3
  have E_r3_3 := (E_r3_1).wr W3
  have F_ordinal_d0_3 := (F_ordinal_d0_1).other W3 (Or.inl ne_d0_b1)
  have F_ordinal_d1_3 := (F_ordinal_d1_1).other W3 (Or.inl ne_d1_b1)
  have F_ordinal_d2_3 := (F_ordinal_d2_1).other W3 (Or.inl ne_d2_b1)
  have F_ordinal_d3_3 := (F_ordinal_d3_1).other W3 (Or.inl ne_d3_b1)
  have F_ordinal_d4_3 := (F_ordinal_d4_1).other W3 (Or.inl ne_d4_b1)
  have F_ordinal_d5_3 := (F_ordinal_d5_1).other W3 (Or.inl ne_d5_b1)
  have F_ordinal_d6_3 := (F_ordinal_d6_1).other W3 (Or.inl ne_d6_b1)
  have F_ordinal_d7_3 := (F_ordinal_d7_1).other W3 (Or.inl ne_d7_b1)
  have F_ordinal_d8_3 := (F_ordinal_d8_1).other W3 (Or.inl ne_d8_b1)
  have F_ordinal_d9_3 := (F_ordinal_d9_1).other W3 (Or.inl ne_d9_b1)
  have Z3 : n0 ≤ h3.size := Nat.le_trans Z1 (Nat.le_of_eq W3.size.symm)
  have V_b1_3 : OwnArR Z h3 b1 "com/example/imhotep/imhotep/core/Trigger" [(.ref d0), .null, .null, .null, .null, .null, .null, .null, .null, .null] := B3
  refine own_dup X3 at_11 (pc' := 12) rfl rfl ?_
  refine own_iconst X3 at_12 (pc' := 13) rfl (v := (1 : Int32)) (by decide) ?_
  refine own_getS X3 at_13 (hw _ (List.mem_of_getElem? (i := 6) rfl)) Via.refl S_START_3 (pc' := 16) rfl ?_
  intro T4 X4
  refine own_aastore X4 at_16 V_b1_3 (Ins.self E_d1_3) (by decide) (Nat.le_of_ble_eq_true rfl) g_b1 (pc' := 17) rfl ?_
  intro T5 h5 X5 W5 B5
  have S_ADD_5 := (S_ADD_3).wr W5
  have S_START_5 := (S_START_3).wr W5
  have S_EXIT_5 := (S_EXIT_3).wr W5
  have S_HOLDER_DIED_5 := (S_HOLDER_DIED_3).wr W5
  have S_HEARTBEAT_LAPSED_5 := (S_HEARTBEAT_LAPSED_3).wr W5
  have S_SUPERSEDED_5 := (S_SUPERSEDED_3).wr W5
  have S_TIME_LIMIT_5 := (S_TIME_LIMIT_3).wr W5
  have S_PHASE_COMPLETE_5 := (S_PHASE_COMPLETE_3).wr W5
  have S_APPROVED_5 := (S_APPROVED_3).wr W5
  have S_CHANGES_REQUESTED_5 := (S_CHANGES_REQUESTED_3).wr W5
  have S_RUNNING_5 := (S_RUNNING_3).wr W5
  have S_REVIEW_5 := (S_REVIEW_3).wr W5
  have S_PENDING_5 := (S_PENDING_3).wr W5
  have S_FAILED_5 := (S_FAILED_3).wr W5
  have S_DONE_5 := (S_DONE_3).wr W5
  have E_d0_5 := (E_d0_3).wr W5
  have E_d1_5 := (E_d1_3).wr W5
  have E_d2_5 := (E_d2_3).wr W5
  have E_d3_5 := (E_d3_3).wr W5
  have E_d4_5 := (E_d4_3).wr W5
  have E_d5_5 := (E_d5_3).wr W5
  have E_d6_5 := (E_d6_3).wr W5
  have E_d7_5 := (E_d7_3).wr W5
  have E_d8_5 := (E_d8_3).wr W5
  have E_d9_5 := (E_d9_3).wr W5
  have E_r1_5 := (E_r1_3).wr W5
  have E_r3_5 := (E_r3_3).wr W5
  have F_ordinal_d0_5 := (F_ordinal_d0_3).other W5 (Or.inl ne_d0_b1)
  have F_ordinal_d1_5 := (F_ordinal_d1_3).other W5 (Or.inl ne_d1_b1)
  have F_ordinal_d2_5 := (F_ordinal_d2_3).other W5 (Or.inl ne_d2_b1)
  have F_ordinal_d3_5 := (F_ordinal_d3_3).other W5 (Or.inl ne_d3_b1)
  have F_ordinal_d4_5 := (F_ordinal_d4_3).other W5 (Or.inl ne_d4_b1)
  have F_ordinal_d5_5 := (F_ordinal_d5_3).other W5 (Or.inl ne_d5_b1)
  have F_ordinal_d6_5 := (F_ordinal_d6_3).other W5 (Or.inl ne_d6_b1)
  have F_ordinal_d7_5 := (F_ordinal_d7_3).other W5 (Or.inl ne_d7_b1)
  have F_ordinal_d8_5 := (F_ordinal_d8_3).other W5 (Or.inl ne_d8_b1)
  have F_ordinal_d9_5 := (F_ordinal_d9_3).other W5 (Or.inl ne_d9_b1)
  have Z5 : n0 ≤ h5.size := Nat.le_trans Z3 (Nat.le_of_eq W5.size.symm)
  have V_b1_5 : OwnArR Z h5 b1 "com/example/imhotep/imhotep/core/Trigger" [(.ref d0), (.ref d1), .null, .null, .null, .null, .null, .null, .null, .null] := B5
  refine own_dup X5 at_17 (pc' := 18) rfl rfl ?_
  refine own_iconst X5 at_18 (pc' := 19) rfl (v := (2 : Int32)) (by decide) ?_
  refine own_getS X5 at_19 (hw _ (List.mem_of_getElem? (i := 8) rfl)) Via.refl S_EXIT_5 (pc' := 22) rfl ?_
  intro T6 X6
  refine own_aastore X6 at_22 V_b1_5 (Ins.self E_d2_5) (by decide) (Nat.le_of_ble_eq_true rfl) g_b1 (pc' := 23) rfl ?_
  intro T7 h7 X7 W7 B7
  have S_ADD_7 := (S_ADD_5).wr W7
  have S_START_7 := (S_START_5).wr W7
  have S_EXIT_7 := (S_EXIT_5).wr W7
  have S_HOLDER_DIED_7 := (S_HOLDER_DIED_5).wr W7
  have S_HEARTBEAT_LAPSED_7 := (S_HEARTBEAT_LAPSED_5).wr W7
  have S_SUPERSEDED_7 := (S_SUPERSEDED_5).wr W7
  have S_TIME_LIMIT_7 := (S_TIME_LIMIT_5).wr W7
  have S_PHASE_COMPLETE_7 := (S_PHASE_COMPLETE_5).wr W7
  have S_APPROVED_7 := (S_APPROVED_5).wr W7
  have S_CHANGES_REQUESTED_7 := (S_CHANGES_REQUESTED_5).wr W7
  have S_RUNNING_7 := (S_RUNNING_5).wr W7
  have S_REVIEW_7 := (S_REVIEW_5).wr W7
  have S_PENDING_7 := (S_PENDING_5).wr W7
  have S_FAILED_7 := (S_FAILED_5).wr W7
  have S_DONE_7 := (S_DONE_5).wr W7
  have E_d0_7 := (E_d0_5).wr W7
  have E_d1_7 := (E_d1_5).wr W7
  have E_d2_7 := (E_d2_5).wr W7
  have E_d3_7 := (E_d3_5).wr W7
  have E_d4_7 := (E_d4_5).wr W7
  have E_d5_7 := (E_d5_5).wr W7
  have E_d6_7 := (E_d6_5).wr W7
  have E_d7_7 := (E_d7_5).wr W7
  have E_d8_7 := (E_d8_5).wr W7
  have E_d9_7 := (E_d9_5).wr W7
  have E_r1_7 := (E_r1_5).wr W7
  have E_r3_7 := (E_r3_5).wr W7
  have F_ordinal_d0_7 := (F_ordinal_d0_5).other W7 (Or.inl ne_d0_b1)
  have F_ordinal_d1_7 := (F_ordinal_d1_5).other W7 (Or.inl ne_d1_b1)
  have F_ordinal_d2_7 := (F_ordinal_d2_5).other W7 (Or.inl ne_d2_b1)
  have F_ordinal_d3_7 := (F_ordinal_d3_5).other W7 (Or.inl ne_d3_b1)
  have F_ordinal_d4_7 := (F_ordinal_d4_5).other W7 (Or.inl ne_d4_b1)
  have F_ordinal_d5_7 := (F_ordinal_d5_5).other W7 (Or.inl ne_d5_b1)
  have F_ordinal_d6_7 := (F_ordinal_d6_5).other W7 (Or.inl ne_d6_b1)
  have F_ordinal_d7_7 := (F_ordinal_d7_5).other W7 (Or.inl ne_d7_b1)
  have F_ordinal_d8_7 := (F_ordinal_d8_5).other W7 (Or.inl ne_d8_b1)
  have F_ordinal_d9_7 := (F_ordinal_d9_5).other W7 (Or.inl ne_d9_b1)
  have Z7 : n0 ≤ h7.size := Nat.le_trans Z5 (Nat.le_of_eq W7.size.symm)
  have V_b1_7 : OwnArR Z h7 b1 "com/example/imhotep/imhotep/core/Trigger" [(.ref d0), (.ref d1), (.ref d2), .null, .null, .null, .null, .null, .null, .null] := B7
  refine own_dup X7 at_23 (pc' := 24) rfl rfl ?_
  refine own_iconst X7 at_24 (pc' := 25) rfl (v := (3 : Int32)) (by decide) ?_
  refine own_getS X7 at_25 (hw _ (List.mem_of_getElem? (i := 10) rfl)) Via.refl S_HOLDER_DIED_7 (pc' := 28) rfl ?_
  intro T8 X8
  refine own_aastore X8 at_28 V_b1_7 (Ins.self E_d3_7) (by decide) (Nat.le_of_ble_eq_true rfl) g_b1 (pc' := 29) rfl ?_
  intro T9 h9 X9 W9 B9
  have S_ADD_9 := (S_ADD_7).wr W9
  have S_START_9 := (S_START_7).wr W9
  have S_EXIT_9 := (S_EXIT_7).wr W9
  have S_HOLDER_DIED_9 := (S_HOLDER_DIED_7).wr W9
  have S_HEARTBEAT_LAPSED_9 := (S_HEARTBEAT_LAPSED_7).wr W9
  have S_SUPERSEDED_9 := (S_SUPERSEDED_7).wr W9
  have S_TIME_LIMIT_9 := (S_TIME_LIMIT_7).wr W9
  have S_PHASE_COMPLETE_9 := (S_PHASE_COMPLETE_7).wr W9
  have S_APPROVED_9 := (S_APPROVED_7).wr W9
  have S_CHANGES_REQUESTED_9 := (S_CHANGES_REQUESTED_7).wr W9
  have S_RUNNING_9 := (S_RUNNING_7).wr W9
  have S_REVIEW_9 := (S_REVIEW_7).wr W9
  have S_PENDING_9 := (S_PENDING_7).wr W9
  have S_FAILED_9 := (S_FAILED_7).wr W9
  have S_DONE_9 := (S_DONE_7).wr W9
  have E_d0_9 := (E_d0_7).wr W9
  have E_d1_9 := (E_d1_7).wr W9
  have E_d2_9 := (E_d2_7).wr W9
  have E_d3_9 := (E_d3_7).wr W9
  have E_d4_9 := (E_d4_7).wr W9
  have E_d5_9 := (E_d5_7).wr W9
  have E_d6_9 := (E_d6_7).wr W9
  have E_d7_9 := (E_d7_7).wr W9
  have E_d8_9 := (E_d8_7).wr W9
  have E_d9_9 := (E_d9_7).wr W9
  have E_r1_9 := (E_r1_7).wr W9
  have E_r3_9 := (E_r3_7).wr W9
  have F_ordinal_d0_9 := (F_ordinal_d0_7).other W9 (Or.inl ne_d0_b1)
  have F_ordinal_d1_9 := (F_ordinal_d1_7).other W9 (Or.inl ne_d1_b1)
  have F_ordinal_d2_9 := (F_ordinal_d2_7).other W9 (Or.inl ne_d2_b1)
  have F_ordinal_d3_9 := (F_ordinal_d3_7).other W9 (Or.inl ne_d3_b1)
  have F_ordinal_d4_9 := (F_ordinal_d4_7).other W9 (Or.inl ne_d4_b1)
  have F_ordinal_d5_9 := (F_ordinal_d5_7).other W9 (Or.inl ne_d5_b1)
  have F_ordinal_d6_9 := (F_ordinal_d6_7).other W9 (Or.inl ne_d6_b1)
  have F_ordinal_d7_9 := (F_ordinal_d7_7).other W9 (Or.inl ne_d7_b1)
  have F_ordinal_d8_9 := (F_ordinal_d8_7).other W9 (Or.inl ne_d8_b1)
  have F_ordinal_d9_9 := (F_ordinal_d9_7).other W9 (Or.inl ne_d9_b1)
  have Z9 : n0 ≤ h9.size := Nat.le_trans Z7 (Nat.le_of_eq W9.size.symm)
  have V_b1_9 : OwnArR Z h9 b1 "com/example/imhotep/imhotep/core/Trigger" [(.ref d0), (.ref d1), (.ref d2), (.ref d3), .null, .null, .null, .null, .null, .null] := B9
  refine own_dup X9 at_29 (pc' := 30) rfl rfl ?_
  refine own_iconst X9 at_30 (pc' := 31) rfl (v := (4 : Int32)) (by decide) ?_
  refine own_getS X9 at_31 (hw _ (List.mem_of_getElem? (i := 12) rfl)) Via.refl S_HEARTBEAT_LAPSED_9 (pc' := 34) rfl ?_
  intro T10 X10
  refine own_aastore X10 at_34 V_b1_9 (Ins.self E_d4_9) (by decide) (Nat.le_of_ble_eq_true rfl) g_b1 (pc' := 35) rfl ?_
  intro T11 h11 X11 W11 B11
  have S_ADD_11 := (S_ADD_9).wr W11
  have S_START_11 := (S_START_9).wr W11
  have S_EXIT_11 := (S_EXIT_9).wr W11
  have S_HOLDER_DIED_11 := (S_HOLDER_DIED_9).wr W11
  have S_HEARTBEAT_LAPSED_11 := (S_HEARTBEAT_LAPSED_9).wr W11
  have S_SUPERSEDED_11 := (S_SUPERSEDED_9).wr W11
  have S_TIME_LIMIT_11 := (S_TIME_LIMIT_9).wr W11
  have S_PHASE_COMPLETE_11 := (S_PHASE_COMPLETE_9).wr W11
  have S_APPROVED_11 := (S_APPROVED_9).wr W11
  have S_CHANGES_REQUESTED_11 := (S_CHANGES_REQUESTED_9).wr W11
  have S_RUNNING_11 := (S_RUNNING_9).wr W11
  have S_REVIEW_11 := (S_REVIEW_9).wr W11
  have S_PENDING_11 := (S_PENDING_9).wr W11
  have S_FAILED_11 := (S_FAILED_9).wr W11
  have S_DONE_11 := (S_DONE_9).wr W11
  have E_d0_11 := (E_d0_9).wr W11
  have E_d1_11 := (E_d1_9).wr W11
  have E_d2_11 := (E_d2_9).wr W11
  have E_d3_11 := (E_d3_9).wr W11
  have E_d4_11 := (E_d4_9).wr W11
  have E_d5_11 := (E_d5_9).wr W11
  have E_d6_11 := (E_d6_9).wr W11
  have E_d7_11 := (E_d7_9).wr W11
  have E_d8_11 := (E_d8_9).wr W11
  have E_d9_11 := (E_d9_9).wr W11
  have E_r1_11 := (E_r1_9).wr W11
  have E_r3_11 := (E_r3_9).wr W11
  have F_ordinal_d0_11 := (F_ordinal_d0_9).other W11 (Or.inl ne_d0_b1)
  have F_ordinal_d1_11 := (F_ordinal_d1_9).other W11 (Or.inl ne_d1_b1)
  have F_ordinal_d2_11 := (F_ordinal_d2_9).other W11 (Or.inl ne_d2_b1)
  have F_ordinal_d3_11 := (F_ordinal_d3_9).other W11 (Or.inl ne_d3_b1)
  have F_ordinal_d4_11 := (F_ordinal_d4_9).other W11 (Or.inl ne_d4_b1)
  have F_ordinal_d5_11 := (F_ordinal_d5_9).other W11 (Or.inl ne_d5_b1)
  have F_ordinal_d6_11 := (F_ordinal_d6_9).other W11 (Or.inl ne_d6_b1)
  have F_ordinal_d7_11 := (F_ordinal_d7_9).other W11 (Or.inl ne_d7_b1)
  have F_ordinal_d8_11 := (F_ordinal_d8_9).other W11 (Or.inl ne_d8_b1)
  have F_ordinal_d9_11 := (F_ordinal_d9_9).other W11 (Or.inl ne_d9_b1)
  have Z11 : n0 ≤ h11.size := Nat.le_trans Z9 (Nat.le_of_eq W11.size.symm)
  have V_b1_11 : OwnArR Z h11 b1 "com/example/imhotep/imhotep/core/Trigger" [(.ref d0), (.ref d1), (.ref d2), (.ref d3), (.ref d4), .null, .null, .null, .null, .null] := B11
  refine own_dup X11 at_35 (pc' := 36) rfl rfl ?_
  refine own_iconst X11 at_36 (pc' := 37) rfl (v := (5 : Int32)) (by decide) ?_
  refine own_getS X11 at_37 (hw _ (List.mem_of_getElem? (i := 14) rfl)) Via.refl S_SUPERSEDED_11 (pc' := 40) rfl ?_
  intro T12 X12
  refine own_aastore X12 at_40 V_b1_11 (Ins.self E_d5_11) (by decide) (Nat.le_of_ble_eq_true rfl) g_b1 (pc' := 41) rfl ?_
  intro T13 h13 X13 W13 B13
  have S_ADD_13 := (S_ADD_11).wr W13
  have S_START_13 := (S_START_11).wr W13
  have S_EXIT_13 := (S_EXIT_11).wr W13
  have S_HOLDER_DIED_13 := (S_HOLDER_DIED_11).wr W13
  have S_HEARTBEAT_LAPSED_13 := (S_HEARTBEAT_LAPSED_11).wr W13
  have S_SUPERSEDED_13 := (S_SUPERSEDED_11).wr W13
  have S_TIME_LIMIT_13 := (S_TIME_LIMIT_11).wr W13
  have S_PHASE_COMPLETE_13 := (S_PHASE_COMPLETE_11).wr W13
  have S_APPROVED_13 := (S_APPROVED_11).wr W13
  have S_CHANGES_REQUESTED_13 := (S_CHANGES_REQUESTED_11).wr W13
  have S_RUNNING_13 := (S_RUNNING_11).wr W13
  have S_REVIEW_13 := (S_REVIEW_11).wr W13
  have S_PENDING_13 := (S_PENDING_11).wr W13
  have S_FAILED_13 := (S_FAILED_11).wr W13
  have S_DONE_13 := (S_DONE_11).wr W13
  have E_d0_13 := (E_d0_11).wr W13
  have E_d1_13 := (E_d1_11).wr W13
  have E_d2_13 := (E_d2_11).wr W13
  have E_d3_13 := (E_d3_11).wr W13
  have E_d4_13 := (E_d4_11).wr W13
  have E_d5_13 := (E_d5_11).wr W13
  have E_d6_13 := (E_d6_11).wr W13
  have E_d7_13 := (E_d7_11).wr W13
  have E_d8_13 := (E_d8_11).wr W13
  have E_d9_13 := (E_d9_11).wr W13
  have E_r1_13 := (E_r1_11).wr W13
  have E_r3_13 := (E_r3_11).wr W13
  have F_ordinal_d0_13 := (F_ordinal_d0_11).other W13 (Or.inl ne_d0_b1)
  have F_ordinal_d1_13 := (F_ordinal_d1_11).other W13 (Or.inl ne_d1_b1)
  have F_ordinal_d2_13 := (F_ordinal_d2_11).other W13 (Or.inl ne_d2_b1)
  have F_ordinal_d3_13 := (F_ordinal_d3_11).other W13 (Or.inl ne_d3_b1)
  have F_ordinal_d4_13 := (F_ordinal_d4_11).other W13 (Or.inl ne_d4_b1)
  have F_ordinal_d5_13 := (F_ordinal_d5_11).other W13 (Or.inl ne_d5_b1)
  have F_ordinal_d6_13 := (F_ordinal_d6_11).other W13 (Or.inl ne_d6_b1)
  have F_ordinal_d7_13 := (F_ordinal_d7_11).other W13 (Or.inl ne_d7_b1)
  have F_ordinal_d8_13 := (F_ordinal_d8_11).other W13 (Or.inl ne_d8_b1)
  have F_ordinal_d9_13 := (F_ordinal_d9_11).other W13 (Or.inl ne_d9_b1)
  have Z13 : n0 ≤ h13.size := Nat.le_trans Z11 (Nat.le_of_eq W13.size.symm)
  have V_b1_13 : OwnArR Z h13 b1 "com/example/imhotep/imhotep/core/Trigger" [(.ref d0), (.ref d1), (.ref d2), (.ref d3), (.ref d4), (.ref d5), .null, .null, .null, .null] := B13
  refine own_dup X13 at_41 (pc' := 42) rfl rfl ?_
  refine own_bipush X13 at_42 (pc' := 44) rfl (v := (6 : Int32)) (by decide) ?_
  refine own_getS X13 at_44 (hw _ (List.mem_of_getElem? (i := 16) rfl)) Via.refl S_TIME_LIMIT_13 (pc' := 47) rfl ?_
  intro T14 X14
  refine own_aastore X14 at_47 V_b1_13 (Ins.self E_d6_13) (by decide) (Nat.le_of_ble_eq_true rfl) g_b1 (pc' := 48) rfl ?_
  intro T15 h15 X15 W15 B15
  have S_ADD_15 := (S_ADD_13).wr W15
  have S_START_15 := (S_START_13).wr W15
  have S_EXIT_15 := (S_EXIT_13).wr W15
  have S_HOLDER_DIED_15 := (S_HOLDER_DIED_13).wr W15
  have S_HEARTBEAT_LAPSED_15 := (S_HEARTBEAT_LAPSED_13).wr W15
  have S_SUPERSEDED_15 := (S_SUPERSEDED_13).wr W15
  have S_TIME_LIMIT_15 := (S_TIME_LIMIT_13).wr W15
  have S_PHASE_COMPLETE_15 := (S_PHASE_COMPLETE_13).wr W15
  have S_APPROVED_15 := (S_APPROVED_13).wr W15
  have S_CHANGES_REQUESTED_15 := (S_CHANGES_REQUESTED_13).wr W15
  have S_RUNNING_15 := (S_RUNNING_13).wr W15
  have S_REVIEW_15 := (S_REVIEW_13).wr W15
  have S_PENDING_15 := (S_PENDING_13).wr W15
  have S_FAILED_15 := (S_FAILED_13).wr W15
  have S_DONE_15 := (S_DONE_13).wr W15
  have E_d0_15 := (E_d0_13).wr W15
  have E_d1_15 := (E_d1_13).wr W15
  have E_d2_15 := (E_d2_13).wr W15
  have E_d3_15 := (E_d3_13).wr W15
  have E_d4_15 := (E_d4_13).wr W15
  have E_d5_15 := (E_d5_13).wr W15
  have E_d6_15 := (E_d6_13).wr W15
  have E_d7_15 := (E_d7_13).wr W15
  have E_d8_15 := (E_d8_13).wr W15
  have E_d9_15 := (E_d9_13).wr W15
  have E_r1_15 := (E_r1_13).wr W15
  have E_r3_15 := (E_r3_13).wr W15
  have F_ordinal_d0_15 := (F_ordinal_d0_13).other W15 (Or.inl ne_d0_b1)
  have F_ordinal_d1_15 := (F_ordinal_d1_13).other W15 (Or.inl ne_d1_b1)
  have F_ordinal_d2_15 := (F_ordinal_d2_13).other W15 (Or.inl ne_d2_b1)
  have F_ordinal_d3_15 := (F_ordinal_d3_13).other W15 (Or.inl ne_d3_b1)
  have F_ordinal_d4_15 := (F_ordinal_d4_13).other W15 (Or.inl ne_d4_b1)
  have F_ordinal_d5_15 := (F_ordinal_d5_13).other W15 (Or.inl ne_d5_b1)
  have F_ordinal_d6_15 := (F_ordinal_d6_13).other W15 (Or.inl ne_d6_b1)
  have F_ordinal_d7_15 := (F_ordinal_d7_13).other W15 (Or.inl ne_d7_b1)
  have F_ordinal_d8_15 := (F_ordinal_d8_13).other W15 (Or.inl ne_d8_b1)
  have F_ordinal_d9_15 := (F_ordinal_d9_13).other W15 (Or.inl ne_d9_b1)
  have Z15 : n0 ≤ h15.size := Nat.le_trans Z13 (Nat.le_of_eq W15.size.symm)
  have V_b1_15 : OwnArR Z h15 b1 "com/example/imhotep/imhotep/core/Trigger" [(.ref d0), (.ref d1), (.ref d2), (.ref d3), (.ref d4), (.ref d5), (.ref d6), .null, .null, .null] := B15
  refine own_dup X15 at_48 (pc' := 49) rfl rfl ?_
  refine own_bipush X15 at_49 (pc' := 51) rfl (v := (7 : Int32)) (by decide) ?_
  refine own_getS X15 at_51 (hw _ (List.mem_of_getElem? (i := 18) rfl)) Via.refl S_PHASE_COMPLETE_15 (pc' := 54) rfl ?_
  intro T16 X16
  refine own_aastore X16 at_54 V_b1_15 (Ins.self E_d7_15) (by decide) (Nat.le_of_ble_eq_true rfl) g_b1 (pc' := 55) rfl ?_
  intro T17 h17 X17 W17 B17
  have S_ADD_17 := (S_ADD_15).wr W17
  have S_START_17 := (S_START_15).wr W17
  have S_EXIT_17 := (S_EXIT_15).wr W17
  have S_HOLDER_DIED_17 := (S_HOLDER_DIED_15).wr W17
  have S_HEARTBEAT_LAPSED_17 := (S_HEARTBEAT_LAPSED_15).wr W17
  have S_SUPERSEDED_17 := (S_SUPERSEDED_15).wr W17
  have S_TIME_LIMIT_17 := (S_TIME_LIMIT_15).wr W17
  have S_PHASE_COMPLETE_17 := (S_PHASE_COMPLETE_15).wr W17
  have S_APPROVED_17 := (S_APPROVED_15).wr W17
  have S_CHANGES_REQUESTED_17 := (S_CHANGES_REQUESTED_15).wr W17
  have S_RUNNING_17 := (S_RUNNING_15).wr W17
  have S_REVIEW_17 := (S_REVIEW_15).wr W17
  have S_PENDING_17 := (S_PENDING_15).wr W17
  have S_FAILED_17 := (S_FAILED_15).wr W17
  have S_DONE_17 := (S_DONE_15).wr W17
  have E_d0_17 := (E_d0_15).wr W17
  have E_d1_17 := (E_d1_15).wr W17
  have E_d2_17 := (E_d2_15).wr W17
  have E_d3_17 := (E_d3_15).wr W17
  have E_d4_17 := (E_d4_15).wr W17
  have E_d5_17 := (E_d5_15).wr W17
  have E_d6_17 := (E_d6_15).wr W17
  have E_d7_17 := (E_d7_15).wr W17
  have E_d8_17 := (E_d8_15).wr W17
  have E_d9_17 := (E_d9_15).wr W17
  have E_r1_17 := (E_r1_15).wr W17
  have E_r3_17 := (E_r3_15).wr W17
  have F_ordinal_d0_17 := (F_ordinal_d0_15).other W17 (Or.inl ne_d0_b1)
  have F_ordinal_d1_17 := (F_ordinal_d1_15).other W17 (Or.inl ne_d1_b1)
  have F_ordinal_d2_17 := (F_ordinal_d2_15).other W17 (Or.inl ne_d2_b1)
  have F_ordinal_d3_17 := (F_ordinal_d3_15).other W17 (Or.inl ne_d3_b1)
  have F_ordinal_d4_17 := (F_ordinal_d4_15).other W17 (Or.inl ne_d4_b1)
  have F_ordinal_d5_17 := (F_ordinal_d5_15).other W17 (Or.inl ne_d5_b1)
  have F_ordinal_d6_17 := (F_ordinal_d6_15).other W17 (Or.inl ne_d6_b1)
  have F_ordinal_d7_17 := (F_ordinal_d7_15).other W17 (Or.inl ne_d7_b1)
  have F_ordinal_d8_17 := (F_ordinal_d8_15).other W17 (Or.inl ne_d8_b1)
  have F_ordinal_d9_17 := (F_ordinal_d9_15).other W17 (Or.inl ne_d9_b1)
  have Z17 : n0 ≤ h17.size := Nat.le_trans Z15 (Nat.le_of_eq W17.size.symm)
  have V_b1_17 : OwnArR Z h17 b1 "com/example/imhotep/imhotep/core/Trigger" [(.ref d0), (.ref d1), (.ref d2), (.ref d3), (.ref d4), (.ref d5), (.ref d6), (.ref d7), .null, .null] := B17
  refine own_dup X17 at_55 (pc' := 56) rfl rfl ?_
  refine own_bipush X17 at_56 (pc' := 58) rfl (v := (8 : Int32)) (by decide) ?_
  refine own_getS X17 at_58 (hw _ (List.mem_of_getElem? (i := 20) rfl)) Via.refl S_APPROVED_17 (pc' := 61) rfl ?_
  intro T18 X18
  refine own_aastore X18 at_61 V_b1_17 (Ins.self E_d8_17) (by decide) (Nat.le_of_ble_eq_true rfl) g_b1 (pc' := 62) rfl ?_
  intro T19 h19 X19 W19 B19
  have S_ADD_19 := (S_ADD_17).wr W19
  have S_START_19 := (S_START_17).wr W19
  have S_EXIT_19 := (S_EXIT_17).wr W19
  have S_HOLDER_DIED_19 := (S_HOLDER_DIED_17).wr W19
  have S_HEARTBEAT_LAPSED_19 := (S_HEARTBEAT_LAPSED_17).wr W19
  have S_SUPERSEDED_19 := (S_SUPERSEDED_17).wr W19
  have S_TIME_LIMIT_19 := (S_TIME_LIMIT_17).wr W19
  have S_PHASE_COMPLETE_19 := (S_PHASE_COMPLETE_17).wr W19
  have S_APPROVED_19 := (S_APPROVED_17).wr W19
  have S_CHANGES_REQUESTED_19 := (S_CHANGES_REQUESTED_17).wr W19
  have S_RUNNING_19 := (S_RUNNING_17).wr W19
  have S_REVIEW_19 := (S_REVIEW_17).wr W19
  have S_PENDING_19 := (S_PENDING_17).wr W19
  have S_FAILED_19 := (S_FAILED_17).wr W19
  have S_DONE_19 := (S_DONE_17).wr W19
  have E_d0_19 := (E_d0_17).wr W19
  have E_d1_19 := (E_d1_17).wr W19
  have E_d2_19 := (E_d2_17).wr W19
  have E_d3_19 := (E_d3_17).wr W19
  have E_d4_19 := (E_d4_17).wr W19
  have E_d5_19 := (E_d5_17).wr W19
  have E_d6_19 := (E_d6_17).wr W19
  have E_d7_19 := (E_d7_17).wr W19
  have E_d8_19 := (E_d8_17).wr W19
  have E_d9_19 := (E_d9_17).wr W19
  have E_r1_19 := (E_r1_17).wr W19
  have E_r3_19 := (E_r3_17).wr W19
  have F_ordinal_d0_19 := (F_ordinal_d0_17).other W19 (Or.inl ne_d0_b1)
  have F_ordinal_d1_19 := (F_ordinal_d1_17).other W19 (Or.inl ne_d1_b1)
  have F_ordinal_d2_19 := (F_ordinal_d2_17).other W19 (Or.inl ne_d2_b1)
  have F_ordinal_d3_19 := (F_ordinal_d3_17).other W19 (Or.inl ne_d3_b1)
  have F_ordinal_d4_19 := (F_ordinal_d4_17).other W19 (Or.inl ne_d4_b1)
  have F_ordinal_d5_19 := (F_ordinal_d5_17).other W19 (Or.inl ne_d5_b1)
  have F_ordinal_d6_19 := (F_ordinal_d6_17).other W19 (Or.inl ne_d6_b1)
  have F_ordinal_d7_19 := (F_ordinal_d7_17).other W19 (Or.inl ne_d7_b1)
  have F_ordinal_d8_19 := (F_ordinal_d8_17).other W19 (Or.inl ne_d8_b1)
  have F_ordinal_d9_19 := (F_ordinal_d9_17).other W19 (Or.inl ne_d9_b1)
  have Z19 : n0 ≤ h19.size := Nat.le_trans Z17 (Nat.le_of_eq W19.size.symm)
  have V_b1_19 : OwnArR Z h19 b1 "com/example/imhotep/imhotep/core/Trigger" [(.ref d0), (.ref d1), (.ref d2), (.ref d3), (.ref d4), (.ref d5), (.ref d6), (.ref d7), (.ref d8), .null] := B19
  refine own_dup X19 at_62 (pc' := 63) rfl rfl ?_
  refine own_bipush X19 at_63 (pc' := 65) rfl (v := (9 : Int32)) (by decide) ?_
  refine own_getS X19 at_65 (hw _ (List.mem_of_getElem? (i := 22) rfl)) Via.refl S_CHANGES_REQUESTED_19 (pc' := 68) rfl ?_
  intro T20 X20
  refine own_aastore X20 at_68 V_b1_19 (Ins.self E_d9_19) (by decide) (Nat.le_of_ble_eq_true rfl) g_b1 (pc' := 69) rfl ?_
  intro T21 h21 X21 W21 B21
  have S_ADD_21 := (S_ADD_19).wr W21
  have S_START_21 := (S_START_19).wr W21
  have S_EXIT_21 := (S_EXIT_19).wr W21
  have S_HOLDER_DIED_21 := (S_HOLDER_DIED_19).wr W21
  have S_HEARTBEAT_LAPSED_21 := (S_HEARTBEAT_LAPSED_19).wr W21
  have S_SUPERSEDED_21 := (S_SUPERSEDED_19).wr W21
  have S_TIME_LIMIT_21 := (S_TIME_LIMIT_19).wr W21
  have S_PHASE_COMPLETE_21 := (S_PHASE_COMPLETE_19).wr W21
  have S_APPROVED_21 := (S_APPROVED_19).wr W21
  have S_CHANGES_REQUESTED_21 := (S_CHANGES_REQUESTED_19).wr W21
  have S_RUNNING_21 := (S_RUNNING_19).wr W21
  have S_REVIEW_21 := (S_REVIEW_19).wr W21
  have S_PENDING_21 := (S_PENDING_19).wr W21
  have S_FAILED_21 := (S_FAILED_19).wr W21
  have S_DONE_21 := (S_DONE_19).wr W21
  have E_d0_21 := (E_d0_19).wr W21
  have E_d1_21 := (E_d1_19).wr W21
  have E_d2_21 := (E_d2_19).wr W21
  have E_d3_21 := (E_d3_19).wr W21
  have E_d4_21 := (E_d4_19).wr W21
  have E_d5_21 := (E_d5_19).wr W21
  have E_d6_21 := (E_d6_19).wr W21
  have E_d7_21 := (E_d7_19).wr W21
  have E_d8_21 := (E_d8_19).wr W21
  have E_d9_21 := (E_d9_19).wr W21
  have E_r1_21 := (E_r1_19).wr W21
  have E_r3_21 := (E_r3_19).wr W21
  have F_ordinal_d0_21 := (F_ordinal_d0_19).other W21 (Or.inl ne_d0_b1)
  have F_ordinal_d1_21 := (F_ordinal_d1_19).other W21 (Or.inl ne_d1_b1)
  have F_ordinal_d2_21 := (F_ordinal_d2_19).other W21 (Or.inl ne_d2_b1)
  have F_ordinal_d3_21 := (F_ordinal_d3_19).other W21 (Or.inl ne_d3_b1)
  have F_ordinal_d4_21 := (F_ordinal_d4_19).other W21 (Or.inl ne_d4_b1)
  have F_ordinal_d5_21 := (F_ordinal_d5_19).other W21 (Or.inl ne_d5_b1)
  have F_ordinal_d6_21 := (F_ordinal_d6_19).other W21 (Or.inl ne_d6_b1)
  have F_ordinal_d7_21 := (F_ordinal_d7_19).other W21 (Or.inl ne_d7_b1)
  have F_ordinal_d8_21 := (F_ordinal_d8_19).other W21 (Or.inl ne_d8_b1)
  have F_ordinal_d9_21 := (F_ordinal_d9_19).other W21 (Or.inl ne_d9_b1)
  have Z21 : n0 ≤ h21.size := Nat.le_trans Z19 (Nat.le_of_eq W21.size.symm)
  have V_b1_21 : OwnArR Z h21 b1 "com/example/imhotep/imhotep/core/Trigger" [(.ref d0), (.ref d1), (.ref d2), (.ref d3), (.ref d4), (.ref d5), (.ref d6), (.ref d7), (.ref d8), (.ref d9)] := B21
  refine own_astoreN X21 at_69 (pc' := 70) rfl rfl (l' := #[.val (.int p1), .val (.ref b1), .unset, .unset, .unset, .unset]) rfl ?_
  refine own_iloadN X21 at_70 (pc' := 71) rfl rfl ?_
  refine own_ldcInt X21 at_71 (pc' := 73) rfl (hw _ (List.mem_of_getElem? (i := 24) rfl)) ?_
  refine own_iand X21 at_73 (pc' := 74) rfl ?_
  refine own_bipush X21 at_74 (pc' := 76) rfl (v := (10 : Int32)) (by decide) ?_
  refine own_irem X21 at_76 (pc' := 77) rfl (by decide) ?_
  refine own_istoreNV X21 at_77 (pc' := 78) rfl (l' := fun v77 => #[.val (.int p1), .val (.ref b1), .val (.int v77), .unset, .unset, .unset]) (fun _ => rfl) ?_
  intro v77 hv77
  refine own_aloadN X21 at_78 (pc' := 79) rfl rfl rfl ?_
  refine own_iloadN X21 at_79 (pc' := 80) rfl rfl ?_
  have hk := own_p10 p1
  rw [← hv77] at hk
  rcases hk with rfl | rfl | rfl | rfl | rfl | rfl | rfl | rfl | rfl | rfl
  · refine own_aaload X21 at_80 V_b1_21.ar rfl (by decide) (v := (.ref d0)) rfl (pc' := 81) rfl ?_
    refine own_astoreN X21 at_81 (pc' := 82) rfl rfl (l' := #[.val (.int p1), .val (.ref b1), .val (.int (0 : Int32)), .val (.ref d0), .unset, .unset]) rfl ?_
    refine own_aloadN X21 at_82 (pc' := 83) rfl rfl rfl ?_
    refine own_getS X21 at_83 (hw _ (List.mem_of_getElem? (i := 25) rfl)) Via.refl S_RUNNING_21 (pc' := 86) rfl ?_
    intro T22 X22
    refine own_getS X22 at_86 (hw _ (List.mem_of_getElem? (i := 28) rfl)) Via.refl S_REVIEW_21 (pc' := 89) rfl ?_
    intro T23 X23
    refine own_callV (a := d0) (argsL := [(.ref r1), (.ref r3)]) X23 at_89 (y := (⟨"com/example/imhotep/imhotep/core/Trigger", "allows", "(Lcom/example/imhotep/imhotep/core/TaskState;Lcom/example/imhotep/imhotep/core/TaskState;)Z"⟩ : MethodName)) (by decide) (hw _ (List.mem_of_getElem? (i := 30) rfl)) (hw _ (List.mem_of_getElem? (i := 31) rfl)) (hw _ (List.mem_of_getElem? (i := 33) rfl)) (hw _ (List.mem_of_getElem? (i := 32) rfl)) (hw _ (List.mem_of_getElem? (i := 34) rfl)) (hw _ (List.mem_of_getElem? (i := 3) rfl)) E_d0_21 (own_rm1_0_r1 l Z a0 hw d0 r1 r3 r0 r5 r4 h21 n0 Z21 E_d0_21 F_ordinal_d0_21 S_RUNNING_21 S_REVIEW_21 S_PENDING_21 S_FAILED_21 S_DONE_21 E_r1_21 E_r3_21 ne_r1_r3 ne_r1_r0 ne_r1_r5 ne_r1_r4 ne_r3_r0 ne_r3_r5 ne_r3_r4) own_pd2 rfl (S := []) rfl (pc' := 92) rfl rfl (W := 0) (Nat.le_of_eq rfl) (by decide) (by decide) (by decide) (by decide) ?_
    intro T24 h24 v24_ X24 q24_
    obtain ⟨rfl, rfl⟩ := q24_
    show OwnGo p e below (T24.setTop (mkF m 92 #[.val (.int p1), .val (.ref b1), .val (.int (0 : Int32)), .val (.ref d0), .unset, .unset] [(.int (0 : Int32))])) RR
    refine own_istore X24 at_92 (pc' := 94) rfl (l' := #[.val (.int p1), .val (.ref b1), .val (.int (0 : Int32)), .val (.ref d0), .val (.int (0 : Int32)), .unset]) rfl ?_
    refine own_aloadN X24 at_94 (pc' := 95) rfl rfl rfl ?_
    refine own_getS X24 at_95 (hw _ (List.mem_of_getElem? (i := 28) rfl)) Via.refl S_REVIEW_21 (pc' := 98) rfl ?_
    intro T25 X25
    refine own_getS X25 at_98 (hw _ (List.mem_of_getElem? (i := 25) rfl)) Via.refl S_RUNNING_21 (pc' := 101) rfl ?_
    intro T26 X26
    refine own_callV (a := d0) (argsL := [(.ref r3), (.ref r1)]) X26 at_101 (y := (⟨"com/example/imhotep/imhotep/core/Trigger", "allows", "(Lcom/example/imhotep/imhotep/core/TaskState;Lcom/example/imhotep/imhotep/core/TaskState;)Z"⟩ : MethodName)) (by decide) (hw _ (List.mem_of_getElem? (i := 30) rfl)) (hw _ (List.mem_of_getElem? (i := 31) rfl)) (hw _ (List.mem_of_getElem? (i := 33) rfl)) (hw _ (List.mem_of_getElem? (i := 32) rfl)) (hw _ (List.mem_of_getElem? (i := 34) rfl)) (hw _ (List.mem_of_getElem? (i := 3) rfl)) E_d0_21 (own_rm1_0_r3 l Z a0 hw d0 r1 r3 r0 r5 r4 h21 n0 Z21 E_d0_21 F_ordinal_d0_21 S_RUNNING_21 S_REVIEW_21 S_PENDING_21 S_FAILED_21 S_DONE_21 E_r1_21 E_r3_21 ne_r1_r3 ne_r1_r0 ne_r1_r5 ne_r1_r4 ne_r3_r0 ne_r3_r5 ne_r3_r4) own_pd2 rfl (S := []) rfl (pc' := 104) rfl rfl (W := 0) (Nat.le_of_eq rfl) (by decide) (by decide) (by decide) (by decide) ?_
    intro T27 h27 v27_ X27 q27_
    obtain ⟨rfl, rfl⟩ := q27_
    show OwnGo p e below (T27.setTop (mkF m 104 #[.val (.int p1), .val (.ref b1), .val (.int (0 : Int32)), .val (.ref d0), .val (.int (0 : Int32)), .unset] [(.int (0 : Int32))])) RR
    refine own_istore X27 at_104 (pc' := 106) rfl (l' := #[.val (.int p1), .val (.ref b1), .val (.int (0 : Int32)), .val (.ref d0), .val (.int (0 : Int32)), .val (.int (0 : Int32))]) rfl ?_
    refine own_aloadN X27 at_106 (pc' := 107) rfl rfl rfl ?_
    refine own_callV (a := d0) (argsL := []) X27 at_107 (y := (⟨"com/example/imhotep/imhotep/core/Trigger", "namesPhase", "()Z"⟩ : MethodName)) (by decide) (hw _ (List.mem_of_getElem? (i := 44) rfl)) (hw _ (List.mem_of_getElem? (i := 45) rfl)) (hw _ (List.mem_of_getElem? (i := 47) rfl)) (hw _ (List.mem_of_getElem? (i := 46) rfl)) (hw _ (List.mem_of_getElem? (i := 48) rfl)) (hw _ (List.mem_of_getElem? (i := 3) rfl)) E_d0_21 (own_rm3_0 l Z a0 hw d0 d7 d8 d9 h21 n0 Z21 S_PHASE_COMPLETE_21 S_APPROVED_21 S_CHANGES_REQUESTED_21 ne_d0_d7 ne_d0_d8 ne_d0_d9) own_pd0 rfl (S := []) rfl (pc' := 110) rfl rfl (W := 0) (Nat.le_of_eq rfl) (by decide) (by decide) (by decide) (by decide) ?_
    intro T28 h28 v28_ X28 q28_
    obtain ⟨rfl, rfl⟩ := q28_
    show OwnGo p e below (T28.setTop (mkF m 110 #[.val (.int p1), .val (.ref b1), .val (.int (0 : Int32)), .val (.ref d0), .val (.int (0 : Int32)), .val (.int (0 : Int32))] [(.int (0 : Int32))])) RR
    refine own_iload X28 at_110 (pc' := 112) rfl rfl ?_
    refine own_ifN X28 at_112 (teq ((rfl : (0 : Int32) = (0 : Int32)))).2 (pc' := 115) rfl ?_
    refine own_iload X28 at_115 (pc' := 117) rfl rfl ?_
    refine own_ifY X28 at_117 (teq ((rfl : (0 : Int32) = (0 : Int32)))).1 (pc' := 124) (by decide) (by decide) ?_
    refine own_iconst X28 at_124 (pc' := 125) rfl (v := (0 : Int32)) (by decide) ?_
    refine own_icN X28 at_125 (teq ((rfl : (0 : Int32) = (0 : Int32)))).2 (pc' := 128) rfl ?_
    refine own_iconst X28 at_128 (pc' := 129) rfl (v := (1 : Int32)) (by decide) ?_
    refine own_goto X28 at_129 (pc' := 133) (by decide) (by decide) ?_
    exact own_retZ X28 at_133 (by decide) rfl (by decide) (by decide)
  · refine own_aaload X21 at_80 V_b1_21.ar rfl (by decide) (v := (.ref d1)) rfl (pc' := 81) rfl ?_
    refine own_astoreN X21 at_81 (pc' := 82) rfl rfl (l' := #[.val (.int p1), .val (.ref b1), .val (.int (1 : Int32)), .val (.ref d1), .unset, .unset]) rfl ?_
    refine own_aloadN X21 at_82 (pc' := 83) rfl rfl rfl ?_
    refine own_getS X21 at_83 (hw _ (List.mem_of_getElem? (i := 25) rfl)) Via.refl S_RUNNING_21 (pc' := 86) rfl ?_
    intro T29 X29
    refine own_getS X29 at_86 (hw _ (List.mem_of_getElem? (i := 28) rfl)) Via.refl S_REVIEW_21 (pc' := 89) rfl ?_
    intro T30 X30
    refine own_callV (a := d1) (argsL := [(.ref r1), (.ref r3)]) X30 at_89 (y := (⟨"com/example/imhotep/imhotep/core/Trigger", "allows", "(Lcom/example/imhotep/imhotep/core/TaskState;Lcom/example/imhotep/imhotep/core/TaskState;)Z"⟩ : MethodName)) (by decide) (hw _ (List.mem_of_getElem? (i := 30) rfl)) (hw _ (List.mem_of_getElem? (i := 31) rfl)) (hw _ (List.mem_of_getElem? (i := 33) rfl)) (hw _ (List.mem_of_getElem? (i := 32) rfl)) (hw _ (List.mem_of_getElem? (i := 34) rfl)) (hw _ (List.mem_of_getElem? (i := 3) rfl)) E_d1_21 (own_rm1_1_r1 l Z a0 hw d1 r1 r3 r0 r5 r4 h21 n0 Z21 E_d1_21 F_ordinal_d1_21 S_RUNNING_21 S_REVIEW_21 S_PENDING_21 S_FAILED_21 S_DONE_21 E_r1_21 E_r3_21 ne_r1_r3 ne_r1_r0 ne_r1_r5 ne_r1_r4 ne_r3_r0 ne_r3_r5 ne_r3_r4) own_pd2 rfl (S := []) rfl (pc' := 92) rfl rfl (W := 0) (Nat.le_of_eq rfl) (by decide) (by decide) (by decide) (by decide) ?_
    intro T31 h31 v31_ X31 q31_
    obtain ⟨rfl, rfl⟩ := q31_
    show OwnGo p e below (T31.setTop (mkF m 92 #[.val (.int p1), .val (.ref b1), .val (.int (1 : Int32)), .val (.ref d1), .unset, .unset] [(.int (0 : Int32))])) RR
    refine own_istore X31 at_92 (pc' := 94) rfl (l' := #[.val (.int p1), .val (.ref b1), .val (.int (1 : Int32)), .val (.ref d1), .val (.int (0 : Int32)), .unset]) rfl ?_
    refine own_aloadN X31 at_94 (pc' := 95) rfl rfl rfl ?_
    refine own_getS X31 at_95 (hw _ (List.mem_of_getElem? (i := 28) rfl)) Via.refl S_REVIEW_21 (pc' := 98) rfl ?_
    intro T32 X32
    refine own_getS X32 at_98 (hw _ (List.mem_of_getElem? (i := 25) rfl)) Via.refl S_RUNNING_21 (pc' := 101) rfl ?_
    intro T33 X33
    refine own_callV (a := d1) (argsL := [(.ref r3), (.ref r1)]) X33 at_101 (y := (⟨"com/example/imhotep/imhotep/core/Trigger", "allows", "(Lcom/example/imhotep/imhotep/core/TaskState;Lcom/example/imhotep/imhotep/core/TaskState;)Z"⟩ : MethodName)) (by decide) (hw _ (List.mem_of_getElem? (i := 30) rfl)) (hw _ (List.mem_of_getElem? (i := 31) rfl)) (hw _ (List.mem_of_getElem? (i := 33) rfl)) (hw _ (List.mem_of_getElem? (i := 32) rfl)) (hw _ (List.mem_of_getElem? (i := 34) rfl)) (hw _ (List.mem_of_getElem? (i := 3) rfl)) E_d1_21 (own_rm1_1_r3 l Z a0 hw d1 r1 r3 r0 r5 r4 h21 n0 Z21 E_d1_21 F_ordinal_d1_21 S_RUNNING_21 S_REVIEW_21 S_PENDING_21 S_FAILED_21 S_DONE_21 E_r1_21 E_r3_21 ne_r1_r3 ne_r1_r0 ne_r1_r5 ne_r1_r4 ne_r3_r0 ne_r3_r5 ne_r3_r4) own_pd2 rfl (S := []) rfl (pc' := 104) rfl rfl (W := 0) (Nat.le_of_eq rfl) (by decide) (by decide) (by decide) (by decide) ?_
    intro T34 h34 v34_ X34 q34_
    obtain ⟨rfl, rfl⟩ := q34_
    show OwnGo p e below (T34.setTop (mkF m 104 #[.val (.int p1), .val (.ref b1), .val (.int (1 : Int32)), .val (.ref d1), .val (.int (0 : Int32)), .unset] [(.int (0 : Int32))])) RR
    refine own_istore X34 at_104 (pc' := 106) rfl (l' := #[.val (.int p1), .val (.ref b1), .val (.int (1 : Int32)), .val (.ref d1), .val (.int (0 : Int32)), .val (.int (0 : Int32))]) rfl ?_
    refine own_aloadN X34 at_106 (pc' := 107) rfl rfl rfl ?_
    refine own_callV (a := d1) (argsL := []) X34 at_107 (y := (⟨"com/example/imhotep/imhotep/core/Trigger", "namesPhase", "()Z"⟩ : MethodName)) (by decide) (hw _ (List.mem_of_getElem? (i := 44) rfl)) (hw _ (List.mem_of_getElem? (i := 45) rfl)) (hw _ (List.mem_of_getElem? (i := 47) rfl)) (hw _ (List.mem_of_getElem? (i := 46) rfl)) (hw _ (List.mem_of_getElem? (i := 48) rfl)) (hw _ (List.mem_of_getElem? (i := 3) rfl)) E_d1_21 (own_rm3_0 l Z a0 hw d1 d7 d8 d9 h21 n0 Z21 S_PHASE_COMPLETE_21 S_APPROVED_21 S_CHANGES_REQUESTED_21 ne_d1_d7 ne_d1_d8 ne_d1_d9) own_pd0 rfl (S := []) rfl (pc' := 110) rfl rfl (W := 0) (Nat.le_of_eq rfl) (by decide) (by decide) (by decide) (by decide) ?_
    intro T35 h35 v35_ X35 q35_
    obtain ⟨rfl, rfl⟩ := q35_
    show OwnGo p e below (T35.setTop (mkF m 110 #[.val (.int p1), .val (.ref b1), .val (.int (1 : Int32)), .val (.ref d1), .val (.int (0 : Int32)), .val (.int (0 : Int32))] [(.int (0 : Int32))])) RR
    refine own_iload X35 at_110 (pc' := 112) rfl rfl ?_
    refine own_ifN X35 at_112 (teq ((rfl : (0 : Int32) = (0 : Int32)))).2 (pc' := 115) rfl ?_
    refine own_iload X35 at_115 (pc' := 117) rfl rfl ?_
    refine own_ifY X35 at_117 (teq ((rfl : (0 : Int32) = (0 : Int32)))).1 (pc' := 124) (by decide) (by decide) ?_
    refine own_iconst X35 at_124 (pc' := 125) rfl (v := (0 : Int32)) (by decide) ?_
    refine own_icN X35 at_125 (teq ((rfl : (0 : Int32) = (0 : Int32)))).2 (pc' := 128) rfl ?_
    refine own_iconst X35 at_128 (pc' := 129) rfl (v := (1 : Int32)) (by decide) ?_
    refine own_goto X35 at_129 (pc' := 133) (by decide) (by decide) ?_
    exact own_retZ X35 at_133 (by decide) rfl (by decide) (by decide)
  · refine own_aaload X21 at_80 V_b1_21.ar rfl (by decide) (v := (.ref d2)) rfl (pc' := 81) rfl ?_
    refine own_astoreN X21 at_81 (pc' := 82) rfl rfl (l' := #[.val (.int p1), .val (.ref b1), .val (.int (2 : Int32)), .val (.ref d2), .unset, .unset]) rfl ?_
    refine own_aloadN X21 at_82 (pc' := 83) rfl rfl rfl ?_
    refine own_getS X21 at_83 (hw _ (List.mem_of_getElem? (i := 25) rfl)) Via.refl S_RUNNING_21 (pc' := 86) rfl ?_
    intro T36 X36
    refine own_getS X36 at_86 (hw _ (List.mem_of_getElem? (i := 28) rfl)) Via.refl S_REVIEW_21 (pc' := 89) rfl ?_
    intro T37 X37
    refine own_callV (a := d2) (argsL := [(.ref r1), (.ref r3)]) X37 at_89 (y := (⟨"com/example/imhotep/imhotep/core/Trigger", "allows", "(Lcom/example/imhotep/imhotep/core/TaskState;Lcom/example/imhotep/imhotep/core/TaskState;)Z"⟩ : MethodName)) (by decide) (hw _ (List.mem_of_getElem? (i := 30) rfl)) (hw _ (List.mem_of_getElem? (i := 31) rfl)) (hw _ (List.mem_of_getElem? (i := 33) rfl)) (hw _ (List.mem_of_getElem? (i := 32) rfl)) (hw _ (List.mem_of_getElem? (i := 34) rfl)) (hw _ (List.mem_of_getElem? (i := 3) rfl)) E_d2_21 (own_rm1_2_r1 l Z a0 hw d2 r1 r3 r0 r5 r4 h21 n0 Z21 E_d2_21 F_ordinal_d2_21 S_RUNNING_21 S_REVIEW_21 S_PENDING_21 S_FAILED_21 S_DONE_21 E_r1_21 E_r3_21 ne_r1_r3 ne_r1_r0 ne_r1_r5 ne_r1_r4 ne_r3_r0 ne_r3_r5 ne_r3_r4) own_pd2 rfl (S := []) rfl (pc' := 92) rfl rfl (W := 0) (Nat.le_of_eq rfl) (by decide) (by decide) (by decide) (by decide) ?_
    intro T38 h38 v38_ X38 q38_
    obtain ⟨rfl, rfl⟩ := q38_
    show OwnGo p e below (T38.setTop (mkF m 92 #[.val (.int p1), .val (.ref b1), .val (.int (2 : Int32)), .val (.ref d2), .unset, .unset] [(.int (0 : Int32))])) RR
    refine own_istore X38 at_92 (pc' := 94) rfl (l' := #[.val (.int p1), .val (.ref b1), .val (.int (2 : Int32)), .val (.ref d2), .val (.int (0 : Int32)), .unset]) rfl ?_
    refine own_aloadN X38 at_94 (pc' := 95) rfl rfl rfl ?_
    refine own_getS X38 at_95 (hw _ (List.mem_of_getElem? (i := 28) rfl)) Via.refl S_REVIEW_21 (pc' := 98) rfl ?_
    intro T39 X39
    refine own_getS X39 at_98 (hw _ (List.mem_of_getElem? (i := 25) rfl)) Via.refl S_RUNNING_21 (pc' := 101) rfl ?_
    intro T40 X40
    refine own_callV (a := d2) (argsL := [(.ref r3), (.ref r1)]) X40 at_101 (y := (⟨"com/example/imhotep/imhotep/core/Trigger", "allows", "(Lcom/example/imhotep/imhotep/core/TaskState;Lcom/example/imhotep/imhotep/core/TaskState;)Z"⟩ : MethodName)) (by decide) (hw _ (List.mem_of_getElem? (i := 30) rfl)) (hw _ (List.mem_of_getElem? (i := 31) rfl)) (hw _ (List.mem_of_getElem? (i := 33) rfl)) (hw _ (List.mem_of_getElem? (i := 32) rfl)) (hw _ (List.mem_of_getElem? (i := 34) rfl)) (hw _ (List.mem_of_getElem? (i := 3) rfl)) E_d2_21 (own_rm1_2_r3 l Z a0 hw d2 r1 r3 r0 r5 r4 h21 n0 Z21 E_d2_21 F_ordinal_d2_21 S_RUNNING_21 S_REVIEW_21 S_PENDING_21 S_FAILED_21 S_DONE_21 E_r1_21 E_r3_21 ne_r1_r3 ne_r1_r0 ne_r1_r5 ne_r1_r4 ne_r3_r0 ne_r3_r5 ne_r3_r4) own_pd2 rfl (S := []) rfl (pc' := 104) rfl rfl (W := 0) (Nat.le_of_eq rfl) (by decide) (by decide) (by decide) (by decide) ?_
    intro T41 h41 v41_ X41 q41_
    obtain ⟨rfl, rfl⟩ := q41_
    show OwnGo p e below (T41.setTop (mkF m 104 #[.val (.int p1), .val (.ref b1), .val (.int (2 : Int32)), .val (.ref d2), .val (.int (0 : Int32)), .unset] [(.int (0 : Int32))])) RR
    refine own_istore X41 at_104 (pc' := 106) rfl (l' := #[.val (.int p1), .val (.ref b1), .val (.int (2 : Int32)), .val (.ref d2), .val (.int (0 : Int32)), .val (.int (0 : Int32))]) rfl ?_
    refine own_aloadN X41 at_106 (pc' := 107) rfl rfl rfl ?_
    refine own_callV (a := d2) (argsL := []) X41 at_107 (y := (⟨"com/example/imhotep/imhotep/core/Trigger", "namesPhase", "()Z"⟩ : MethodName)) (by decide) (hw _ (List.mem_of_getElem? (i := 44) rfl)) (hw _ (List.mem_of_getElem? (i := 45) rfl)) (hw _ (List.mem_of_getElem? (i := 47) rfl)) (hw _ (List.mem_of_getElem? (i := 46) rfl)) (hw _ (List.mem_of_getElem? (i := 48) rfl)) (hw _ (List.mem_of_getElem? (i := 3) rfl)) E_d2_21 (own_rm3_0 l Z a0 hw d2 d7 d8 d9 h21 n0 Z21 S_PHASE_COMPLETE_21 S_APPROVED_21 S_CHANGES_REQUESTED_21 ne_d2_d7 ne_d2_d8 ne_d2_d9) own_pd0 rfl (S := []) rfl (pc' := 110) rfl rfl (W := 0) (Nat.le_of_eq rfl) (by decide) (by decide) (by decide) (by decide) ?_
    intro T42 h42 v42_ X42 q42_
    obtain ⟨rfl, rfl⟩ := q42_
    show OwnGo p e below (T42.setTop (mkF m 110 #[.val (.int p1), .val (.ref b1), .val (.int (2 : Int32)), .val (.ref d2), .val (.int (0 : Int32)), .val (.int (0 : Int32))] [(.int (0 : Int32))])) RR
    refine own_iload X42 at_110 (pc' := 112) rfl rfl ?_
    refine own_ifN X42 at_112 (teq ((rfl : (0 : Int32) = (0 : Int32)))).2 (pc' := 115) rfl ?_
    refine own_iload X42 at_115 (pc' := 117) rfl rfl ?_
    refine own_ifY X42 at_117 (teq ((rfl : (0 : Int32) = (0 : Int32)))).1 (pc' := 124) (by decide) (by decide) ?_
    refine own_iconst X42 at_124 (pc' := 125) rfl (v := (0 : Int32)) (by decide) ?_
    refine own_icN X42 at_125 (teq ((rfl : (0 : Int32) = (0 : Int32)))).2 (pc' := 128) rfl ?_
    refine own_iconst X42 at_128 (pc' := 129) rfl (v := (1 : Int32)) (by decide) ?_
    refine own_goto X42 at_129 (pc' := 133) (by decide) (by decide) ?_
    exact own_retZ X42 at_133 (by decide) rfl (by decide) (by decide)
  · refine own_aaload X21 at_80 V_b1_21.ar rfl (by decide) (v := (.ref d3)) rfl (pc' := 81) rfl ?_
    refine own_astoreN X21 at_81 (pc' := 82) rfl rfl (l' := #[.val (.int p1), .val (.ref b1), .val (.int (3 : Int32)), .val (.ref d3), .unset, .unset]) rfl ?_
    refine own_aloadN X21 at_82 (pc' := 83) rfl rfl rfl ?_
    refine own_getS X21 at_83 (hw _ (List.mem_of_getElem? (i := 25) rfl)) Via.refl S_RUNNING_21 (pc' := 86) rfl ?_
    intro T43 X43
    refine own_getS X43 at_86 (hw _ (List.mem_of_getElem? (i := 28) rfl)) Via.refl S_REVIEW_21 (pc' := 89) rfl ?_
    intro T44 X44
    refine own_callV (a := d3) (argsL := [(.ref r1), (.ref r3)]) X44 at_89 (y := (⟨"com/example/imhotep/imhotep/core/Trigger", "allows", "(Lcom/example/imhotep/imhotep/core/TaskState;Lcom/example/imhotep/imhotep/core/TaskState;)Z"⟩ : MethodName)) (by decide) (hw _ (List.mem_of_getElem? (i := 30) rfl)) (hw _ (List.mem_of_getElem? (i := 31) rfl)) (hw _ (List.mem_of_getElem? (i := 33) rfl)) (hw _ (List.mem_of_getElem? (i := 32) rfl)) (hw _ (List.mem_of_getElem? (i := 34) rfl)) (hw _ (List.mem_of_getElem? (i := 3) rfl)) E_d3_21 (own_rm1_3_r1 l Z a0 hw d3 r1 r3 r0 r5 r4 h21 n0 Z21 E_d3_21 F_ordinal_d3_21 S_RUNNING_21 S_REVIEW_21 S_PENDING_21 S_FAILED_21 S_DONE_21 E_r1_21 E_r3_21 ne_r1_r3 ne_r1_r0 ne_r1_r5 ne_r1_r4 ne_r3_r0 ne_r3_r5 ne_r3_r4) own_pd2 rfl (S := []) rfl (pc' := 92) rfl rfl (W := 0) (Nat.le_of_eq rfl) (by decide) (by decide) (by decide) (by decide) ?_
    intro T45 h45 v45_ X45 q45_
    obtain ⟨rfl, rfl⟩ := q45_
    show OwnGo p e below (T45.setTop (mkF m 92 #[.val (.int p1), .val (.ref b1), .val (.int (3 : Int32)), .val (.ref d3), .unset, .unset] [(.int (0 : Int32))])) RR
    refine own_istore X45 at_92 (pc' := 94) rfl (l' := #[.val (.int p1), .val (.ref b1), .val (.int (3 : Int32)), .val (.ref d3), .val (.int (0 : Int32)), .unset]) rfl ?_
    refine own_aloadN X45 at_94 (pc' := 95) rfl rfl rfl ?_
    refine own_getS X45 at_95 (hw _ (List.mem_of_getElem? (i := 28) rfl)) Via.refl S_REVIEW_21 (pc' := 98) rfl ?_
    intro T46 X46
    refine own_getS X46 at_98 (hw _ (List.mem_of_getElem? (i := 25) rfl)) Via.refl S_RUNNING_21 (pc' := 101) rfl ?_
    intro T47 X47
    refine own_callV (a := d3) (argsL := [(.ref r3), (.ref r1)]) X47 at_101 (y := (⟨"com/example/imhotep/imhotep/core/Trigger", "allows", "(Lcom/example/imhotep/imhotep/core/TaskState;Lcom/example/imhotep/imhotep/core/TaskState;)Z"⟩ : MethodName)) (by decide) (hw _ (List.mem_of_getElem? (i := 30) rfl)) (hw _ (List.mem_of_getElem? (i := 31) rfl)) (hw _ (List.mem_of_getElem? (i := 33) rfl)) (hw _ (List.mem_of_getElem? (i := 32) rfl)) (hw _ (List.mem_of_getElem? (i := 34) rfl)) (hw _ (List.mem_of_getElem? (i := 3) rfl)) E_d3_21 (own_rm1_3_r3 l Z a0 hw d3 r1 r3 r0 r5 r4 h21 n0 Z21 E_d3_21 F_ordinal_d3_21 S_RUNNING_21 S_REVIEW_21 S_PENDING_21 S_FAILED_21 S_DONE_21 E_r1_21 E_r3_21 ne_r1_r3 ne_r1_r0 ne_r1_r5 ne_r1_r4 ne_r3_r0 ne_r3_r5 ne_r3_r4) own_pd2 rfl (S := []) rfl (pc' := 104) rfl rfl (W := 0) (Nat.le_of_eq rfl) (by decide) (by decide) (by decide) (by decide) ?_
    intro T48 h48 v48_ X48 q48_
    obtain ⟨rfl, rfl⟩ := q48_
    show OwnGo p e below (T48.setTop (mkF m 104 #[.val (.int p1), .val (.ref b1), .val (.int (3 : Int32)), .val (.ref d3), .val (.int (0 : Int32)), .unset] [(.int (0 : Int32))])) RR
    refine own_istore X48 at_104 (pc' := 106) rfl (l' := #[.val (.int p1), .val (.ref b1), .val (.int (3 : Int32)), .val (.ref d3), .val (.int (0 : Int32)), .val (.int (0 : Int32))]) rfl ?_
    refine own_aloadN X48 at_106 (pc' := 107) rfl rfl rfl ?_
    refine own_callV (a := d3) (argsL := []) X48 at_107 (y := (⟨"com/example/imhotep/imhotep/core/Trigger", "namesPhase", "()Z"⟩ : MethodName)) (by decide) (hw _ (List.mem_of_getElem? (i := 44) rfl)) (hw _ (List.mem_of_getElem? (i := 45) rfl)) (hw _ (List.mem_of_getElem? (i := 47) rfl)) (hw _ (List.mem_of_getElem? (i := 46) rfl)) (hw _ (List.mem_of_getElem? (i := 48) rfl)) (hw _ (List.mem_of_getElem? (i := 3) rfl)) E_d3_21 (own_rm3_0 l Z a0 hw d3 d7 d8 d9 h21 n0 Z21 S_PHASE_COMPLETE_21 S_APPROVED_21 S_CHANGES_REQUESTED_21 ne_d3_d7 ne_d3_d8 ne_d3_d9) own_pd0 rfl (S := []) rfl (pc' := 110) rfl rfl (W := 0) (Nat.le_of_eq rfl) (by decide) (by decide) (by decide) (by decide) ?_
    intro T49 h49 v49_ X49 q49_
    obtain ⟨rfl, rfl⟩ := q49_
    show OwnGo p e below (T49.setTop (mkF m 110 #[.val (.int p1), .val (.ref b1), .val (.int (3 : Int32)), .val (.ref d3), .val (.int (0 : Int32)), .val (.int (0 : Int32))] [(.int (0 : Int32))])) RR
    refine own_iload X49 at_110 (pc' := 112) rfl rfl ?_
    refine own_ifN X49 at_112 (teq ((rfl : (0 : Int32) = (0 : Int32)))).2 (pc' := 115) rfl ?_
    refine own_iload X49 at_115 (pc' := 117) rfl rfl ?_
    refine own_ifY X49 at_117 (teq ((rfl : (0 : Int32) = (0 : Int32)))).1 (pc' := 124) (by decide) (by decide) ?_
    refine own_iconst X49 at_124 (pc' := 125) rfl (v := (0 : Int32)) (by decide) ?_
    refine own_icN X49 at_125 (teq ((rfl : (0 : Int32) = (0 : Int32)))).2 (pc' := 128) rfl ?_
    refine own_iconst X49 at_128 (pc' := 129) rfl (v := (1 : Int32)) (by decide) ?_
    refine own_goto X49 at_129 (pc' := 133) (by decide) (by decide) ?_
    exact own_retZ X49 at_133 (by decide) rfl (by decide) (by decide)
  · refine own_aaload X21 at_80 V_b1_21.ar rfl (by decide) (v := (.ref d4)) rfl (pc' := 81) rfl ?_
    refine own_astoreN X21 at_81 (pc' := 82) rfl rfl (l' := #[.val (.int p1), .val (.ref b1), .val (.int (4 : Int32)), .val (.ref d4), .unset, .unset]) rfl ?_
    refine own_aloadN X21 at_82 (pc' := 83) rfl rfl rfl ?_
    refine own_getS X21 at_83 (hw _ (List.mem_of_getElem? (i := 25) rfl)) Via.refl S_RUNNING_21 (pc' := 86) rfl ?_
    intro T50 X50
    refine own_getS X50 at_86 (hw _ (List.mem_of_getElem? (i := 28) rfl)) Via.refl S_REVIEW_21 (pc' := 89) rfl ?_
    intro T51 X51
    refine own_callV (a := d4) (argsL := [(.ref r1), (.ref r3)]) X51 at_89 (y := (⟨"com/example/imhotep/imhotep/core/Trigger", "allows", "(Lcom/example/imhotep/imhotep/core/TaskState;Lcom/example/imhotep/imhotep/core/TaskState;)Z"⟩ : MethodName)) (by decide) (hw _ (List.mem_of_getElem? (i := 30) rfl)) (hw _ (List.mem_of_getElem? (i := 31) rfl)) (hw _ (List.mem_of_getElem? (i := 33) rfl)) (hw _ (List.mem_of_getElem? (i := 32) rfl)) (hw _ (List.mem_of_getElem? (i := 34) rfl)) (hw _ (List.mem_of_getElem? (i := 3) rfl)) E_d4_21 (own_rm1_4_r1 l Z a0 hw d4 r1 r3 r0 r5 r4 h21 n0 Z21 E_d4_21 F_ordinal_d4_21 S_RUNNING_21 S_REVIEW_21 S_PENDING_21 S_FAILED_21 S_DONE_21 E_r1_21 E_r3_21 ne_r1_r3 ne_r1_r0 ne_r1_r5 ne_r1_r4 ne_r3_r0 ne_r3_r5 ne_r3_r4) own_pd2 rfl (S := []) rfl (pc' := 92) rfl rfl (W := 0) (Nat.le_of_eq rfl) (by decide) (by decide) (by decide) (by decide) ?_
    intro T52 h52 v52_ X52 q52_
    obtain ⟨rfl, rfl⟩ := q52_
    show OwnGo p e below (T52.setTop (mkF m 92 #[.val (.int p1), .val (.ref b1), .val (.int (4 : Int32)), .val (.ref d4), .unset, .unset] [(.int (0 : Int32))])) RR
    refine own_istore X52 at_92 (pc' := 94) rfl (l' := #[.val (.int p1), .val (.ref b1), .val (.int (4 : Int32)), .val (.ref d4), .val (.int (0 : Int32)), .unset]) rfl ?_
    refine own_aloadN X52 at_94 (pc' := 95) rfl rfl rfl ?_
    refine own_getS X52 at_95 (hw _ (List.mem_of_getElem? (i := 28) rfl)) Via.refl S_REVIEW_21 (pc' := 98) rfl ?_
    intro T53 X53
    refine own_getS X53 at_98 (hw _ (List.mem_of_getElem? (i := 25) rfl)) Via.refl S_RUNNING_21 (pc' := 101) rfl ?_
    intro T54 X54
    refine own_callV (a := d4) (argsL := [(.ref r3), (.ref r1)]) X54 at_101 (y := (⟨"com/example/imhotep/imhotep/core/Trigger", "allows", "(Lcom/example/imhotep/imhotep/core/TaskState;Lcom/example/imhotep/imhotep/core/TaskState;)Z"⟩ : MethodName)) (by decide) (hw _ (List.mem_of_getElem? (i := 30) rfl)) (hw _ (List.mem_of_getElem? (i := 31) rfl)) (hw _ (List.mem_of_getElem? (i := 33) rfl)) (hw _ (List.mem_of_getElem? (i := 32) rfl)) (hw _ (List.mem_of_getElem? (i := 34) rfl)) (hw _ (List.mem_of_getElem? (i := 3) rfl)) E_d4_21 (own_rm1_4_r3 l Z a0 hw d4 r1 r3 r0 r5 r4 h21 n0 Z21 E_d4_21 F_ordinal_d4_21 S_RUNNING_21 S_REVIEW_21 S_PENDING_21 S_FAILED_21 S_DONE_21 E_r1_21 E_r3_21 ne_r1_r3 ne_r1_r0 ne_r1_r5 ne_r1_r4 ne_r3_r0 ne_r3_r5 ne_r3_r4) own_pd2 rfl (S := []) rfl (pc' := 104) rfl rfl (W := 0) (Nat.le_of_eq rfl) (by decide) (by decide) (by decide) (by decide) ?_
    intro T55 h55 v55_ X55 q55_
    obtain ⟨rfl, rfl⟩ := q55_
    show OwnGo p e below (T55.setTop (mkF m 104 #[.val (.int p1), .val (.ref b1), .val (.int (4 : Int32)), .val (.ref d4), .val (.int (0 : Int32)), .unset] [(.int (0 : Int32))])) RR
    refine own_istore X55 at_104 (pc' := 106) rfl (l' := #[.val (.int p1), .val (.ref b1), .val (.int (4 : Int32)), .val (.ref d4), .val (.int (0 : Int32)), .val (.int (0 : Int32))]) rfl ?_
    refine own_aloadN X55 at_106 (pc' := 107) rfl rfl rfl ?_
    refine own_callV (a := d4) (argsL := []) X55 at_107 (y := (⟨"com/example/imhotep/imhotep/core/Trigger", "namesPhase", "()Z"⟩ : MethodName)) (by decide) (hw _ (List.mem_of_getElem? (i := 44) rfl)) (hw _ (List.mem_of_getElem? (i := 45) rfl)) (hw _ (List.mem_of_getElem? (i := 47) rfl)) (hw _ (List.mem_of_getElem? (i := 46) rfl)) (hw _ (List.mem_of_getElem? (i := 48) rfl)) (hw _ (List.mem_of_getElem? (i := 3) rfl)) E_d4_21 (own_rm3_0 l Z a0 hw d4 d7 d8 d9 h21 n0 Z21 S_PHASE_COMPLETE_21 S_APPROVED_21 S_CHANGES_REQUESTED_21 ne_d4_d7 ne_d4_d8 ne_d4_d9) own_pd0 rfl (S := []) rfl (pc' := 110) rfl rfl (W := 0) (Nat.le_of_eq rfl) (by decide) (by decide) (by decide) (by decide) ?_
    intro T56 h56 v56_ X56 q56_
    obtain ⟨rfl, rfl⟩ := q56_
    show OwnGo p e below (T56.setTop (mkF m 110 #[.val (.int p1), .val (.ref b1), .val (.int (4 : Int32)), .val (.ref d4), .val (.int (0 : Int32)), .val (.int (0 : Int32))] [(.int (0 : Int32))])) RR
    refine own_iload X56 at_110 (pc' := 112) rfl rfl ?_
    refine own_ifN X56 at_112 (teq ((rfl : (0 : Int32) = (0 : Int32)))).2 (pc' := 115) rfl ?_
    refine own_iload X56 at_115 (pc' := 117) rfl rfl ?_
    refine own_ifY X56 at_117 (teq ((rfl : (0 : Int32) = (0 : Int32)))).1 (pc' := 124) (by decide) (by decide) ?_
    refine own_iconst X56 at_124 (pc' := 125) rfl (v := (0 : Int32)) (by decide) ?_
    refine own_icN X56 at_125 (teq ((rfl : (0 : Int32) = (0 : Int32)))).2 (pc' := 128) rfl ?_
    refine own_iconst X56 at_128 (pc' := 129) rfl (v := (1 : Int32)) (by decide) ?_
    refine own_goto X56 at_129 (pc' := 133) (by decide) (by decide) ?_
    exact own_retZ X56 at_133 (by decide) rfl (by decide) (by decide)
  · refine own_aaload X21 at_80 V_b1_21.ar rfl (by decide) (v := (.ref d5)) rfl (pc' := 81) rfl ?_
    refine own_astoreN X21 at_81 (pc' := 82) rfl rfl (l' := #[.val (.int p1), .val (.ref b1), .val (.int (5 : Int32)), .val (.ref d5), .unset, .unset]) rfl ?_
    refine own_aloadN X21 at_82 (pc' := 83) rfl rfl rfl ?_
    refine own_getS X21 at_83 (hw _ (List.mem_of_getElem? (i := 25) rfl)) Via.refl S_RUNNING_21 (pc' := 86) rfl ?_
    intro T57 X57
    refine own_getS X57 at_86 (hw _ (List.mem_of_getElem? (i := 28) rfl)) Via.refl S_REVIEW_21 (pc' := 89) rfl ?_
    intro T58 X58
    refine own_callV (a := d5) (argsL := [(.ref r1), (.ref r3)]) X58 at_89 (y := (⟨"com/example/imhotep/imhotep/core/Trigger", "allows", "(Lcom/example/imhotep/imhotep/core/TaskState;Lcom/example/imhotep/imhotep/core/TaskState;)Z"⟩ : MethodName)) (by decide) (hw _ (List.mem_of_getElem? (i := 30) rfl)) (hw _ (List.mem_of_getElem? (i := 31) rfl)) (hw _ (List.mem_of_getElem? (i := 33) rfl)) (hw _ (List.mem_of_getElem? (i := 32) rfl)) (hw _ (List.mem_of_getElem? (i := 34) rfl)) (hw _ (List.mem_of_getElem? (i := 3) rfl)) E_d5_21 (own_rm1_5_r1 l Z a0 hw d5 r1 r3 r0 r5 r4 h21 n0 Z21 E_d5_21 F_ordinal_d5_21 S_RUNNING_21 S_REVIEW_21 S_PENDING_21 S_FAILED_21 S_DONE_21 E_r1_21 E_r3_21 ne_r1_r3 ne_r1_r0 ne_r1_r5 ne_r1_r4 ne_r3_r0 ne_r3_r5 ne_r3_r4) own_pd2 rfl (S := []) rfl (pc' := 92) rfl rfl (W := 0) (Nat.le_of_eq rfl) (by decide) (by decide) (by decide) (by decide) ?_
    intro T59 h59 v59_ X59 q59_
    obtain ⟨rfl, rfl⟩ := q59_
    show OwnGo p e below (T59.setTop (mkF m 92 #[.val (.int p1), .val (.ref b1), .val (.int (5 : Int32)), .val (.ref d5), .unset, .unset] [(.int (0 : Int32))])) RR
    refine own_istore X59 at_92 (pc' := 94) rfl (l' := #[.val (.int p1), .val (.ref b1), .val (.int (5 : Int32)), .val (.ref d5), .val (.int (0 : Int32)), .unset]) rfl ?_
    refine own_aloadN X59 at_94 (pc' := 95) rfl rfl rfl ?_
    refine own_getS X59 at_95 (hw _ (List.mem_of_getElem? (i := 28) rfl)) Via.refl S_REVIEW_21 (pc' := 98) rfl ?_
    intro T60 X60
    refine own_getS X60 at_98 (hw _ (List.mem_of_getElem? (i := 25) rfl)) Via.refl S_RUNNING_21 (pc' := 101) rfl ?_
    intro T61 X61
    refine own_callV (a := d5) (argsL := [(.ref r3), (.ref r1)]) X61 at_101 (y := (⟨"com/example/imhotep/imhotep/core/Trigger", "allows", "(Lcom/example/imhotep/imhotep/core/TaskState;Lcom/example/imhotep/imhotep/core/TaskState;)Z"⟩ : MethodName)) (by decide) (hw _ (List.mem_of_getElem? (i := 30) rfl)) (hw _ (List.mem_of_getElem? (i := 31) rfl)) (hw _ (List.mem_of_getElem? (i := 33) rfl)) (hw _ (List.mem_of_getElem? (i := 32) rfl)) (hw _ (List.mem_of_getElem? (i := 34) rfl)) (hw _ (List.mem_of_getElem? (i := 3) rfl)) E_d5_21 (own_rm1_5_r3 l Z a0 hw d5 r1 r3 r0 r5 r4 h21 n0 Z21 E_d5_21 F_ordinal_d5_21 S_RUNNING_21 S_REVIEW_21 S_PENDING_21 S_FAILED_21 S_DONE_21 E_r1_21 E_r3_21 ne_r1_r3 ne_r1_r0 ne_r1_r5 ne_r1_r4 ne_r3_r0 ne_r3_r5 ne_r3_r4) own_pd2 rfl (S := []) rfl (pc' := 104) rfl rfl (W := 0) (Nat.le_of_eq rfl) (by decide) (by decide) (by decide) (by decide) ?_
    intro T62 h62 v62_ X62 q62_
    obtain ⟨rfl, rfl⟩ := q62_
    show OwnGo p e below (T62.setTop (mkF m 104 #[.val (.int p1), .val (.ref b1), .val (.int (5 : Int32)), .val (.ref d5), .val (.int (0 : Int32)), .unset] [(.int (0 : Int32))])) RR
    refine own_istore X62 at_104 (pc' := 106) rfl (l' := #[.val (.int p1), .val (.ref b1), .val (.int (5 : Int32)), .val (.ref d5), .val (.int (0 : Int32)), .val (.int (0 : Int32))]) rfl ?_
    refine own_aloadN X62 at_106 (pc' := 107) rfl rfl rfl ?_
    refine own_callV (a := d5) (argsL := []) X62 at_107 (y := (⟨"com/example/imhotep/imhotep/core/Trigger", "namesPhase", "()Z"⟩ : MethodName)) (by decide) (hw _ (List.mem_of_getElem? (i := 44) rfl)) (hw _ (List.mem_of_getElem? (i := 45) rfl)) (hw _ (List.mem_of_getElem? (i := 47) rfl)) (hw _ (List.mem_of_getElem? (i := 46) rfl)) (hw _ (List.mem_of_getElem? (i := 48) rfl)) (hw _ (List.mem_of_getElem? (i := 3) rfl)) E_d5_21 (own_rm3_0 l Z a0 hw d5 d7 d8 d9 h21 n0 Z21 S_PHASE_COMPLETE_21 S_APPROVED_21 S_CHANGES_REQUESTED_21 ne_d5_d7 ne_d5_d8 ne_d5_d9) own_pd0 rfl (S := []) rfl (pc' := 110) rfl rfl (W := 0) (Nat.le_of_eq rfl) (by decide) (by decide) (by decide) (by decide) ?_
    intro T63 h63 v63_ X63 q63_
    obtain ⟨rfl, rfl⟩ := q63_
    show OwnGo p e below (T63.setTop (mkF m 110 #[.val (.int p1), .val (.ref b1), .val (.int (5 : Int32)), .val (.ref d5), .val (.int (0 : Int32)), .val (.int (0 : Int32))] [(.int (0 : Int32))])) RR
    refine own_iload X63 at_110 (pc' := 112) rfl rfl ?_
    refine own_ifN X63 at_112 (teq ((rfl : (0 : Int32) = (0 : Int32)))).2 (pc' := 115) rfl ?_
    refine own_iload X63 at_115 (pc' := 117) rfl rfl ?_
    refine own_ifY X63 at_117 (teq ((rfl : (0 : Int32) = (0 : Int32)))).1 (pc' := 124) (by decide) (by decide) ?_
    refine own_iconst X63 at_124 (pc' := 125) rfl (v := (0 : Int32)) (by decide) ?_
    refine own_icN X63 at_125 (teq ((rfl : (0 : Int32) = (0 : Int32)))).2 (pc' := 128) rfl ?_
    refine own_iconst X63 at_128 (pc' := 129) rfl (v := (1 : Int32)) (by decide) ?_
    refine own_goto X63 at_129 (pc' := 133) (by decide) (by decide) ?_
    exact own_retZ X63 at_133 (by decide) rfl (by decide) (by decide)
  · refine own_aaload X21 at_80 V_b1_21.ar rfl (by decide) (v := (.ref d6)) rfl (pc' := 81) rfl ?_
    refine own_astoreN X21 at_81 (pc' := 82) rfl rfl (l' := #[.val (.int p1), .val (.ref b1), .val (.int (6 : Int32)), .val (.ref d6), .unset, .unset]) rfl ?_
    refine own_aloadN X21 at_82 (pc' := 83) rfl rfl rfl ?_
    refine own_getS X21 at_83 (hw _ (List.mem_of_getElem? (i := 25) rfl)) Via.refl S_RUNNING_21 (pc' := 86) rfl ?_
    intro T64 X64
    refine own_getS X64 at_86 (hw _ (List.mem_of_getElem? (i := 28) rfl)) Via.refl S_REVIEW_21 (pc' := 89) rfl ?_
    intro T65 X65
    refine own_callV (a := d6) (argsL := [(.ref r1), (.ref r3)]) X65 at_89 (y := (⟨"com/example/imhotep/imhotep/core/Trigger", "allows", "(Lcom/example/imhotep/imhotep/core/TaskState;Lcom/example/imhotep/imhotep/core/TaskState;)Z"⟩ : MethodName)) (by decide) (hw _ (List.mem_of_getElem? (i := 30) rfl)) (hw _ (List.mem_of_getElem? (i := 31) rfl)) (hw _ (List.mem_of_getElem? (i := 33) rfl)) (hw _ (List.mem_of_getElem? (i := 32) rfl)) (hw _ (List.mem_of_getElem? (i := 34) rfl)) (hw _ (List.mem_of_getElem? (i := 3) rfl)) E_d6_21 (own_rm1_6_r1 l Z a0 hw d6 r1 r3 r0 r5 r4 h21 n0 Z21 E_d6_21 F_ordinal_d6_21 S_RUNNING_21 S_REVIEW_21 S_PENDING_21 S_FAILED_21 S_DONE_21 E_r1_21 E_r3_21 ne_r1_r3 ne_r1_r0 ne_r1_r5 ne_r1_r4 ne_r3_r0 ne_r3_r5 ne_r3_r4) own_pd2 rfl (S := []) rfl (pc' := 92) rfl rfl (W := 0) (Nat.le_of_eq rfl) (by decide) (by decide) (by decide) (by decide) ?_
    intro T66 h66 v66_ X66 q66_
    obtain ⟨rfl, rfl⟩ := q66_
    show OwnGo p e below (T66.setTop (mkF m 92 #[.val (.int p1), .val (.ref b1), .val (.int (6 : Int32)), .val (.ref d6), .unset, .unset] [(.int (0 : Int32))])) RR
    refine own_istore X66 at_92 (pc' := 94) rfl (l' := #[.val (.int p1), .val (.ref b1), .val (.int (6 : Int32)), .val (.ref d6), .val (.int (0 : Int32)), .unset]) rfl ?_
    refine own_aloadN X66 at_94 (pc' := 95) rfl rfl rfl ?_
    refine own_getS X66 at_95 (hw _ (List.mem_of_getElem? (i := 28) rfl)) Via.refl S_REVIEW_21 (pc' := 98) rfl ?_
    intro T67 X67
    refine own_getS X67 at_98 (hw _ (List.mem_of_getElem? (i := 25) rfl)) Via.refl S_RUNNING_21 (pc' := 101) rfl ?_
    intro T68 X68
    refine own_callV (a := d6) (argsL := [(.ref r3), (.ref r1)]) X68 at_101 (y := (⟨"com/example/imhotep/imhotep/core/Trigger", "allows", "(Lcom/example/imhotep/imhotep/core/TaskState;Lcom/example/imhotep/imhotep/core/TaskState;)Z"⟩ : MethodName)) (by decide) (hw _ (List.mem_of_getElem? (i := 30) rfl)) (hw _ (List.mem_of_getElem? (i := 31) rfl)) (hw _ (List.mem_of_getElem? (i := 33) rfl)) (hw _ (List.mem_of_getElem? (i := 32) rfl)) (hw _ (List.mem_of_getElem? (i := 34) rfl)) (hw _ (List.mem_of_getElem? (i := 3) rfl)) E_d6_21 (own_rm1_6_r3 l Z a0 hw d6 r1 r3 r0 r5 r4 h21 n0 Z21 E_d6_21 F_ordinal_d6_21 S_RUNNING_21 S_REVIEW_21 S_PENDING_21 S_FAILED_21 S_DONE_21 E_r1_21 E_r3_21 ne_r1_r3 ne_r1_r0 ne_r1_r5 ne_r1_r4 ne_r3_r0 ne_r3_r5 ne_r3_r4) own_pd2 rfl (S := []) rfl (pc' := 104) rfl rfl (W := 0) (Nat.le_of_eq rfl) (by decide) (by decide) (by decide) (by decide) ?_
    intro T69 h69 v69_ X69 q69_
    obtain ⟨rfl, rfl⟩ := q69_
    show OwnGo p e below (T69.setTop (mkF m 104 #[.val (.int p1), .val (.ref b1), .val (.int (6 : Int32)), .val (.ref d6), .val (.int (0 : Int32)), .unset] [(.int (0 : Int32))])) RR
    refine own_istore X69 at_104 (pc' := 106) rfl (l' := #[.val (.int p1), .val (.ref b1), .val (.int (6 : Int32)), .val (.ref d6), .val (.int (0 : Int32)), .val (.int (0 : Int32))]) rfl ?_
    refine own_aloadN X69 at_106 (pc' := 107) rfl rfl rfl ?_
    refine own_callV (a := d6) (argsL := []) X69 at_107 (y := (⟨"com/example/imhotep/imhotep/core/Trigger", "namesPhase", "()Z"⟩ : MethodName)) (by decide) (hw _ (List.mem_of_getElem? (i := 44) rfl)) (hw _ (List.mem_of_getElem? (i := 45) rfl)) (hw _ (List.mem_of_getElem? (i := 47) rfl)) (hw _ (List.mem_of_getElem? (i := 46) rfl)) (hw _ (List.mem_of_getElem? (i := 48) rfl)) (hw _ (List.mem_of_getElem? (i := 3) rfl)) E_d6_21 (own_rm3_0 l Z a0 hw d6 d7 d8 d9 h21 n0 Z21 S_PHASE_COMPLETE_21 S_APPROVED_21 S_CHANGES_REQUESTED_21 ne_d6_d7 ne_d6_d8 ne_d6_d9) own_pd0 rfl (S := []) rfl (pc' := 110) rfl rfl (W := 0) (Nat.le_of_eq rfl) (by decide) (by decide) (by decide) (by decide) ?_
    intro T70 h70 v70_ X70 q70_
    obtain ⟨rfl, rfl⟩ := q70_
    show OwnGo p e below (T70.setTop (mkF m 110 #[.val (.int p1), .val (.ref b1), .val (.int (6 : Int32)), .val (.ref d6), .val (.int (0 : Int32)), .val (.int (0 : Int32))] [(.int (0 : Int32))])) RR
    refine own_iload X70 at_110 (pc' := 112) rfl rfl ?_
    refine own_ifN X70 at_112 (teq ((rfl : (0 : Int32) = (0 : Int32)))).2 (pc' := 115) rfl ?_
    refine own_iload X70 at_115 (pc' := 117) rfl rfl ?_
    refine own_ifY X70 at_117 (teq ((rfl : (0 : Int32) = (0 : Int32)))).1 (pc' := 124) (by decide) (by decide) ?_
    refine own_iconst X70 at_124 (pc' := 125) rfl (v := (0 : Int32)) (by decide) ?_
    refine own_icN X70 at_125 (teq ((rfl : (0 : Int32) = (0 : Int32)))).2 (pc' := 128) rfl ?_
    refine own_iconst X70 at_128 (pc' := 129) rfl (v := (1 : Int32)) (by decide) ?_
    refine own_goto X70 at_129 (pc' := 133) (by decide) (by decide) ?_
    exact own_retZ X70 at_133 (by decide) rfl (by decide) (by decide)
  · refine own_aaload X21 at_80 V_b1_21.ar rfl (by decide) (v := (.ref d7)) rfl (pc' := 81) rfl ?_
    refine own_astoreN X21 at_81 (pc' := 82) rfl rfl (l' := #[.val (.int p1), .val (.ref b1), .val (.int (7 : Int32)), .val (.ref d7), .unset, .unset]) rfl ?_
    refine own_aloadN X21 at_82 (pc' := 83) rfl rfl rfl ?_
    refine own_getS X21 at_83 (hw _ (List.mem_of_getElem? (i := 25) rfl)) Via.refl S_RUNNING_21 (pc' := 86) rfl ?_
    intro T71 X71
    refine own_getS X71 at_86 (hw _ (List.mem_of_getElem? (i := 28) rfl)) Via.refl S_REVIEW_21 (pc' := 89) rfl ?_
    intro T72 X72
    refine own_callV (a := d7) (argsL := [(.ref r1), (.ref r3)]) X72 at_89 (y := (⟨"com/example/imhotep/imhotep/core/Trigger", "allows", "(Lcom/example/imhotep/imhotep/core/TaskState;Lcom/example/imhotep/imhotep/core/TaskState;)Z"⟩ : MethodName)) (by decide) (hw _ (List.mem_of_getElem? (i := 30) rfl)) (hw _ (List.mem_of_getElem? (i := 31) rfl)) (hw _ (List.mem_of_getElem? (i := 33) rfl)) (hw _ (List.mem_of_getElem? (i := 32) rfl)) (hw _ (List.mem_of_getElem? (i := 34) rfl)) (hw _ (List.mem_of_getElem? (i := 3) rfl)) E_d7_21 (own_rm1_7_r1 l Z a0 hw d7 r1 r3 r0 r5 r4 h21 n0 Z21 E_d7_21 F_ordinal_d7_21 S_RUNNING_21 S_REVIEW_21 S_PENDING_21 S_FAILED_21 S_DONE_21 E_r1_21 E_r3_21 ne_r1_r3 ne_r1_r0 ne_r1_r5 ne_r1_r4 ne_r3_r0 ne_r3_r5 ne_r3_r4) own_pd2 rfl (S := []) rfl (pc' := 92) rfl rfl (W := 0) (Nat.le_of_eq rfl) (by decide) (by decide) (by decide) (by decide) ?_
    intro T73 h73 v73_ X73 q73_
    obtain ⟨rfl, rfl⟩ := q73_
    show OwnGo p e below (T73.setTop (mkF m 92 #[.val (.int p1), .val (.ref b1), .val (.int (7 : Int32)), .val (.ref d7), .unset, .unset] [(.int (1 : Int32))])) RR
    refine own_istore X73 at_92 (pc' := 94) rfl (l' := #[.val (.int p1), .val (.ref b1), .val (.int (7 : Int32)), .val (.ref d7), .val (.int (1 : Int32)), .unset]) rfl ?_
    refine own_aloadN X73 at_94 (pc' := 95) rfl rfl rfl ?_
    refine own_getS X73 at_95 (hw _ (List.mem_of_getElem? (i := 28) rfl)) Via.refl S_REVIEW_21 (pc' := 98) rfl ?_
    intro T74 X74
    refine own_getS X74 at_98 (hw _ (List.mem_of_getElem? (i := 25) rfl)) Via.refl S_RUNNING_21 (pc' := 101) rfl ?_
    intro T75 X75
    refine own_callV (a := d7) (argsL := [(.ref r3), (.ref r1)]) X75 at_101 (y := (⟨"com/example/imhotep/imhotep/core/Trigger", "allows", "(Lcom/example/imhotep/imhotep/core/TaskState;Lcom/example/imhotep/imhotep/core/TaskState;)Z"⟩ : MethodName)) (by decide) (hw _ (List.mem_of_getElem? (i := 30) rfl)) (hw _ (List.mem_of_getElem? (i := 31) rfl)) (hw _ (List.mem_of_getElem? (i := 33) rfl)) (hw _ (List.mem_of_getElem? (i := 32) rfl)) (hw _ (List.mem_of_getElem? (i := 34) rfl)) (hw _ (List.mem_of_getElem? (i := 3) rfl)) E_d7_21 (own_rm1_7_r3 l Z a0 hw d7 r1 r3 r0 r5 r4 h21 n0 Z21 E_d7_21 F_ordinal_d7_21 S_RUNNING_21 S_REVIEW_21 S_PENDING_21 S_FAILED_21 S_DONE_21 E_r1_21 E_r3_21 ne_r1_r3 ne_r1_r0 ne_r1_r5 ne_r1_r4 ne_r3_r0 ne_r3_r5 ne_r3_r4) own_pd2 rfl (S := []) rfl (pc' := 104) rfl rfl (W := 0) (Nat.le_of_eq rfl) (by decide) (by decide) (by decide) (by decide) ?_
    intro T76 h76 v76_ X76 q76_
    obtain ⟨rfl, rfl⟩ := q76_
    show OwnGo p e below (T76.setTop (mkF m 104 #[.val (.int p1), .val (.ref b1), .val (.int (7 : Int32)), .val (.ref d7), .val (.int (1 : Int32)), .unset] [(.int (0 : Int32))])) RR
    refine own_istore X76 at_104 (pc' := 106) rfl (l' := #[.val (.int p1), .val (.ref b1), .val (.int (7 : Int32)), .val (.ref d7), .val (.int (1 : Int32)), .val (.int (0 : Int32))]) rfl ?_
    refine own_aloadN X76 at_106 (pc' := 107) rfl rfl rfl ?_
    refine own_callV (a := d7) (argsL := []) X76 at_107 (y := (⟨"com/example/imhotep/imhotep/core/Trigger", "namesPhase", "()Z"⟩ : MethodName)) (by decide) (hw _ (List.mem_of_getElem? (i := 44) rfl)) (hw _ (List.mem_of_getElem? (i := 45) rfl)) (hw _ (List.mem_of_getElem? (i := 47) rfl)) (hw _ (List.mem_of_getElem? (i := 46) rfl)) (hw _ (List.mem_of_getElem? (i := 48) rfl)) (hw _ (List.mem_of_getElem? (i := 3) rfl)) E_d7_21 (own_rm3_7 l Z a0 hw d7 d8 d9 h21 n0 Z21 S_PHASE_COMPLETE_21 S_APPROVED_21 S_CHANGES_REQUESTED_21) own_pd0 rfl (S := []) rfl (pc' := 110) rfl rfl (W := 0) (Nat.le_of_eq rfl) (by decide) (by decide) (by decide) (by decide) ?_
    intro T77 h77 v77_ X77 q77_
    obtain ⟨rfl, rfl⟩ := q77_
    show OwnGo p e below (T77.setTop (mkF m 110 #[.val (.int p1), .val (.ref b1), .val (.int (7 : Int32)), .val (.ref d7), .val (.int (1 : Int32)), .val (.int (0 : Int32))] [(.int (1 : Int32))])) RR
    refine own_iload X77 at_110 (pc' := 112) rfl rfl ?_
    refine own_ifY X77 at_112 (feq ((by decide : ¬ ((1 : Int32) = (0 : Int32))))).2 (pc' := 120) (by decide) (by decide) ?_
    refine own_iconst X77 at_120 (pc' := 121) rfl (v := (1 : Int32)) (by decide) ?_
    refine own_goto X77 at_121 (pc' := 125) (by decide) (by decide) ?_
    refine own_icN X77 at_125 (teq ((rfl : (1 : Int32) = (1 : Int32)))).2 (pc' := 128) rfl ?_
    refine own_iconst X77 at_128 (pc' := 129) rfl (v := (1 : Int32)) (by decide) ?_
    refine own_goto X77 at_129 (pc' := 133) (by decide) (by decide) ?_
    exact own_retZ X77 at_133 (by decide) rfl (by decide) (by decide)
  · refine own_aaload X21 at_80 V_b1_21.ar rfl (by decide) (v := (.ref d8)) rfl (pc' := 81) rfl ?_
    refine own_astoreN X21 at_81 (pc' := 82) rfl rfl (l' := #[.val (.int p1), .val (.ref b1), .val (.int (8 : Int32)), .val (.ref d8), .unset, .unset]) rfl ?_
    refine own_aloadN X21 at_82 (pc' := 83) rfl rfl rfl ?_
    refine own_getS X21 at_83 (hw _ (List.mem_of_getElem? (i := 25) rfl)) Via.refl S_RUNNING_21 (pc' := 86) rfl ?_
    intro T78 X78
    refine own_getS X78 at_86 (hw _ (List.mem_of_getElem? (i := 28) rfl)) Via.refl S_REVIEW_21 (pc' := 89) rfl ?_
    intro T79 X79
    refine own_callV (a := d8) (argsL := [(.ref r1), (.ref r3)]) X79 at_89 (y := (⟨"com/example/imhotep/imhotep/core/Trigger", "allows", "(Lcom/example/imhotep/imhotep/core/TaskState;Lcom/example/imhotep/imhotep/core/TaskState;)Z"⟩ : MethodName)) (by decide) (hw _ (List.mem_of_getElem? (i := 30) rfl)) (hw _ (List.mem_of_getElem? (i := 31) rfl)) (hw _ (List.mem_of_getElem? (i := 33) rfl)) (hw _ (List.mem_of_getElem? (i := 32) rfl)) (hw _ (List.mem_of_getElem? (i := 34) rfl)) (hw _ (List.mem_of_getElem? (i := 3) rfl)) E_d8_21 (own_rm1_8_r1 l Z a0 hw d8 r1 r3 r0 r5 r4 h21 n0 Z21 E_d8_21 F_ordinal_d8_21 S_RUNNING_21 S_REVIEW_21 S_PENDING_21 S_FAILED_21 S_DONE_21 E_r1_21 E_r3_21 ne_r1_r3 ne_r1_r0 ne_r1_r5 ne_r1_r4 ne_r3_r0 ne_r3_r5 ne_r3_r4) own_pd2 rfl (S := []) rfl (pc' := 92) rfl rfl (W := 0) (Nat.le_of_eq rfl) (by decide) (by decide) (by decide) (by decide) ?_
    intro T80 h80 v80_ X80 q80_
    obtain ⟨rfl, rfl⟩ := q80_
    show OwnGo p e below (T80.setTop (mkF m 92 #[.val (.int p1), .val (.ref b1), .val (.int (8 : Int32)), .val (.ref d8), .unset, .unset] [(.int (0 : Int32))])) RR
    refine own_istore X80 at_92 (pc' := 94) rfl (l' := #[.val (.int p1), .val (.ref b1), .val (.int (8 : Int32)), .val (.ref d8), .val (.int (0 : Int32)), .unset]) rfl ?_
    refine own_aloadN X80 at_94 (pc' := 95) rfl rfl rfl ?_
    refine own_getS X80 at_95 (hw _ (List.mem_of_getElem? (i := 28) rfl)) Via.refl S_REVIEW_21 (pc' := 98) rfl ?_
    intro T81 X81
    refine own_getS X81 at_98 (hw _ (List.mem_of_getElem? (i := 25) rfl)) Via.refl S_RUNNING_21 (pc' := 101) rfl ?_
    intro T82 X82
    refine own_callV (a := d8) (argsL := [(.ref r3), (.ref r1)]) X82 at_101 (y := (⟨"com/example/imhotep/imhotep/core/Trigger", "allows", "(Lcom/example/imhotep/imhotep/core/TaskState;Lcom/example/imhotep/imhotep/core/TaskState;)Z"⟩ : MethodName)) (by decide) (hw _ (List.mem_of_getElem? (i := 30) rfl)) (hw _ (List.mem_of_getElem? (i := 31) rfl)) (hw _ (List.mem_of_getElem? (i := 33) rfl)) (hw _ (List.mem_of_getElem? (i := 32) rfl)) (hw _ (List.mem_of_getElem? (i := 34) rfl)) (hw _ (List.mem_of_getElem? (i := 3) rfl)) E_d8_21 (own_rm1_8_r3 l Z a0 hw d8 r1 r3 r0 r5 r4 h21 n0 Z21 E_d8_21 F_ordinal_d8_21 S_RUNNING_21 S_REVIEW_21 S_PENDING_21 S_FAILED_21 S_DONE_21 E_r1_21 E_r3_21 ne_r1_r3 ne_r1_r0 ne_r1_r5 ne_r1_r4 ne_r3_r0 ne_r3_r5 ne_r3_r4) own_pd2 rfl (S := []) rfl (pc' := 104) rfl rfl (W := 0) (Nat.le_of_eq rfl) (by decide) (by decide) (by decide) (by decide) ?_
    intro T83 h83 v83_ X83 q83_
    obtain ⟨rfl, rfl⟩ := q83_
    show OwnGo p e below (T83.setTop (mkF m 104 #[.val (.int p1), .val (.ref b1), .val (.int (8 : Int32)), .val (.ref d8), .val (.int (0 : Int32)), .unset] [(.int (1 : Int32))])) RR
    refine own_istore X83 at_104 (pc' := 106) rfl (l' := #[.val (.int p1), .val (.ref b1), .val (.int (8 : Int32)), .val (.ref d8), .val (.int (0 : Int32)), .val (.int (1 : Int32))]) rfl ?_
    refine own_aloadN X83 at_106 (pc' := 107) rfl rfl rfl ?_
    refine own_callV (a := d8) (argsL := []) X83 at_107 (y := (⟨"com/example/imhotep/imhotep/core/Trigger", "namesPhase", "()Z"⟩ : MethodName)) (by decide) (hw _ (List.mem_of_getElem? (i := 44) rfl)) (hw _ (List.mem_of_getElem? (i := 45) rfl)) (hw _ (List.mem_of_getElem? (i := 47) rfl)) (hw _ (List.mem_of_getElem? (i := 46) rfl)) (hw _ (List.mem_of_getElem? (i := 48) rfl)) (hw _ (List.mem_of_getElem? (i := 3) rfl)) E_d8_21 (own_rm3_8 l Z a0 hw d7 d8 d9 h21 n0 Z21 S_PHASE_COMPLETE_21 S_APPROVED_21 S_CHANGES_REQUESTED_21 ne_d7_d8.symm) own_pd0 rfl (S := []) rfl (pc' := 110) rfl rfl (W := 0) (Nat.le_of_eq rfl) (by decide) (by decide) (by decide) (by decide) ?_
    intro T84 h84 v84_ X84 q84_
    obtain ⟨rfl, rfl⟩ := q84_
    show OwnGo p e below (T84.setTop (mkF m 110 #[.val (.int p1), .val (.ref b1), .val (.int (8 : Int32)), .val (.ref d8), .val (.int (0 : Int32)), .val (.int (1 : Int32))] [(.int (1 : Int32))])) RR
    refine own_iload X84 at_110 (pc' := 112) rfl rfl ?_
    refine own_ifN X84 at_112 (teq ((rfl : (0 : Int32) = (0 : Int32)))).2 (pc' := 115) rfl ?_
    refine own_iload X84 at_115 (pc' := 117) rfl rfl ?_
    refine own_ifN X84 at_117 (feq ((by decide : ¬ ((1 : Int32) = (0 : Int32))))).1 (pc' := 120) rfl ?_
    refine own_iconst X84 at_120 (pc' := 121) rfl (v := (1 : Int32)) (by decide) ?_
    refine own_goto X84 at_121 (pc' := 125) (by decide) (by decide) ?_
    refine own_icN X84 at_125 (teq ((rfl : (1 : Int32) = (1 : Int32)))).2 (pc' := 128) rfl ?_
    refine own_iconst X84 at_128 (pc' := 129) rfl (v := (1 : Int32)) (by decide) ?_
    refine own_goto X84 at_129 (pc' := 133) (by decide) (by decide) ?_
    exact own_retZ X84 at_133 (by decide) rfl (by decide) (by decide)
  · refine own_aaload X21 at_80 V_b1_21.ar rfl (by decide) (v := (.ref d9)) rfl (pc' := 81) rfl ?_
    refine own_astoreN X21 at_81 (pc' := 82) rfl rfl (l' := #[.val (.int p1), .val (.ref b1), .val (.int (9 : Int32)), .val (.ref d9), .unset, .unset]) rfl ?_
    refine own_aloadN X21 at_82 (pc' := 83) rfl rfl rfl ?_
    refine own_getS X21 at_83 (hw _ (List.mem_of_getElem? (i := 25) rfl)) Via.refl S_RUNNING_21 (pc' := 86) rfl ?_
    intro T85 X85
    refine own_getS X85 at_86 (hw _ (List.mem_of_getElem? (i := 28) rfl)) Via.refl S_REVIEW_21 (pc' := 89) rfl ?_
    intro T86 X86
    refine own_callV (a := d9) (argsL := [(.ref r1), (.ref r3)]) X86 at_89 (y := (⟨"com/example/imhotep/imhotep/core/Trigger", "allows", "(Lcom/example/imhotep/imhotep/core/TaskState;Lcom/example/imhotep/imhotep/core/TaskState;)Z"⟩ : MethodName)) (by decide) (hw _ (List.mem_of_getElem? (i := 30) rfl)) (hw _ (List.mem_of_getElem? (i := 31) rfl)) (hw _ (List.mem_of_getElem? (i := 33) rfl)) (hw _ (List.mem_of_getElem? (i := 32) rfl)) (hw _ (List.mem_of_getElem? (i := 34) rfl)) (hw _ (List.mem_of_getElem? (i := 3) rfl)) E_d9_21 (own_rm1_9_r1 l Z a0 hw d9 r1 r3 r0 r5 r4 h21 n0 Z21 E_d9_21 F_ordinal_d9_21 S_RUNNING_21 S_REVIEW_21 S_PENDING_21 S_FAILED_21 S_DONE_21 E_r1_21 E_r3_21 ne_r1_r3 ne_r1_r0 ne_r1_r5 ne_r1_r4 ne_r3_r0 ne_r3_r5 ne_r3_r4) own_pd2 rfl (S := []) rfl (pc' := 92) rfl rfl (W := 0) (Nat.le_of_eq rfl) (by decide) (by decide) (by decide) (by decide) ?_
    intro T87 h87 v87_ X87 q87_
    obtain ⟨rfl, rfl⟩ := q87_
    show OwnGo p e below (T87.setTop (mkF m 92 #[.val (.int p1), .val (.ref b1), .val (.int (9 : Int32)), .val (.ref d9), .unset, .unset] [(.int (0 : Int32))])) RR
    refine own_istore X87 at_92 (pc' := 94) rfl (l' := #[.val (.int p1), .val (.ref b1), .val (.int (9 : Int32)), .val (.ref d9), .val (.int (0 : Int32)), .unset]) rfl ?_
    refine own_aloadN X87 at_94 (pc' := 95) rfl rfl rfl ?_
    refine own_getS X87 at_95 (hw _ (List.mem_of_getElem? (i := 28) rfl)) Via.refl S_REVIEW_21 (pc' := 98) rfl ?_
    intro T88 X88
    refine own_getS X88 at_98 (hw _ (List.mem_of_getElem? (i := 25) rfl)) Via.refl S_RUNNING_21 (pc' := 101) rfl ?_
    intro T89 X89
    refine own_callV (a := d9) (argsL := [(.ref r3), (.ref r1)]) X89 at_101 (y := (⟨"com/example/imhotep/imhotep/core/Trigger", "allows", "(Lcom/example/imhotep/imhotep/core/TaskState;Lcom/example/imhotep/imhotep/core/TaskState;)Z"⟩ : MethodName)) (by decide) (hw _ (List.mem_of_getElem? (i := 30) rfl)) (hw _ (List.mem_of_getElem? (i := 31) rfl)) (hw _ (List.mem_of_getElem? (i := 33) rfl)) (hw _ (List.mem_of_getElem? (i := 32) rfl)) (hw _ (List.mem_of_getElem? (i := 34) rfl)) (hw _ (List.mem_of_getElem? (i := 3) rfl)) E_d9_21 (own_rm1_9_r3 l Z a0 hw d9 r1 r3 r0 r5 r4 h21 n0 Z21 E_d9_21 F_ordinal_d9_21 S_RUNNING_21 S_REVIEW_21 S_PENDING_21 S_FAILED_21 S_DONE_21 E_r1_21 E_r3_21 ne_r1_r3 ne_r1_r0 ne_r1_r5 ne_r1_r4 ne_r3_r0 ne_r3_r5 ne_r3_r4) own_pd2 rfl (S := []) rfl (pc' := 104) rfl rfl (W := 0) (Nat.le_of_eq rfl) (by decide) (by decide) (by decide) (by decide) ?_
    intro T90 h90 v90_ X90 q90_
    obtain ⟨rfl, rfl⟩ := q90_
    show OwnGo p e below (T90.setTop (mkF m 104 #[.val (.int p1), .val (.ref b1), .val (.int (9 : Int32)), .val (.ref d9), .val (.int (0 : Int32)), .unset] [(.int (1 : Int32))])) RR
    refine own_istore X90 at_104 (pc' := 106) rfl (l' := #[.val (.int p1), .val (.ref b1), .val (.int (9 : Int32)), .val (.ref d9), .val (.int (0 : Int32)), .val (.int (1 : Int32))]) rfl ?_
    refine own_aloadN X90 at_106 (pc' := 107) rfl rfl rfl ?_
    refine own_callV (a := d9) (argsL := []) X90 at_107 (y := (⟨"com/example/imhotep/imhotep/core/Trigger", "namesPhase", "()Z"⟩ : MethodName)) (by decide) (hw _ (List.mem_of_getElem? (i := 44) rfl)) (hw _ (List.mem_of_getElem? (i := 45) rfl)) (hw _ (List.mem_of_getElem? (i := 47) rfl)) (hw _ (List.mem_of_getElem? (i := 46) rfl)) (hw _ (List.mem_of_getElem? (i := 48) rfl)) (hw _ (List.mem_of_getElem? (i := 3) rfl)) E_d9_21 (own_rm3_9 l Z a0 hw d7 d8 d9 h21 n0 Z21 S_PHASE_COMPLETE_21 S_APPROVED_21 S_CHANGES_REQUESTED_21 ne_d7_d9.symm ne_d8_d9.symm) own_pd0 rfl (S := []) rfl (pc' := 110) rfl rfl (W := 0) (Nat.le_of_eq rfl) (by decide) (by decide) (by decide) (by decide) ?_
    intro T91 h91 v91_ X91 q91_
    obtain ⟨rfl, rfl⟩ := q91_
    show OwnGo p e below (T91.setTop (mkF m 110 #[.val (.int p1), .val (.ref b1), .val (.int (9 : Int32)), .val (.ref d9), .val (.int (0 : Int32)), .val (.int (1 : Int32))] [(.int (1 : Int32))])) RR
    refine own_iload X91 at_110 (pc' := 112) rfl rfl ?_
    refine own_ifN X91 at_112 (teq ((rfl : (0 : Int32) = (0 : Int32)))).2 (pc' := 115) rfl ?_
    refine own_iload X91 at_115 (pc' := 117) rfl rfl ?_
    refine own_ifN X91 at_117 (feq ((by decide : ¬ ((1 : Int32) = (0 : Int32))))).1 (pc' := 120) rfl ?_
    refine own_iconst X91 at_120 (pc' := 121) rfl (v := (1 : Int32)) (by decide) ?_
    refine own_goto X91 at_121 (pc' := 125) (by decide) (by decide) ?_
    refine own_icN X91 at_125 (teq ((rfl : (1 : Int32) = (1 : Int32)))).2 (pc' := 128) rfl ?_
    refine own_iconst X91 at_128 (pc' := 129) rfl (v := (1 : Int32)) (by decide) ?_
    refine own_goto X91 at_129 (pc' := 133) (by decide) (by decide) ?_
    exact own_retZ X91 at_133 (by decide) rfl (by decide) (by decide)
set_option maxRecDepth 65536 in
set_option maxHeartbeats 40000000 in
theorem own_comes {Post : Tables → Env → Array Value → State → Outcome → State → Prop} (hpost : ∀ tb e args s v u, (limb_1_1.after args s (.returned v) u = true ∧ limb_1_2.after args s (.returned v) u = true ∧ True) → FrameEnd s (.returned v) u (Jvm.fieldLocs frame_1_writes args s ++ Jvm.arrayLocs frame_1_arrays args s ++ Jvm.staticLocs frame_1_statics s) 16 128 → Post tb e args s (.returned v) u) :
    ArmFor flags0 classFile x code maxLocals ret World_1 tables_1 room_1 Calls_1 rest_1 Pre_1 Post := by
  intro l hfl _ _ p e ha hc hk s m args below hf hA hF happ hP
  obtain ⟨hcalls, hrest, hpre⟩ := hP
  obtain ⟨-, -, -, hnamed, -, -, -, hat⟩ := (Spec.applies_iff hf).mp happ
  obtain ⟨hg, hn⟩ := and_e (Cond.before_iff.mp (show (Jvm.Cond.and given_1 narrow_1).before args s = true from hpre))
  obtain ⟨gc, g0⟩ := and_e hg
  obtain ⟨z0, rfl⟩ : ∃ z0 : Value, args = #[z0] := by
    have hs : args.size = 1 := by simpa [Cond.value, given_1] using gc
    obtain ⟨L⟩ := args
    match L, hs with
    | [z0], _ => exact ⟨z0, rfl⟩
  have hw := fun d (hd : d ∈ tables_1) => atoms_spec (ws := Jvm.Cond.code x code maxLocals ret :: tables_1) hat d (List.mem_cons_of_mem _ hd)
  obtain ⟨i0, ei0⟩ := is_v g0
  obtain rfl : z0 = (.int i0) := Option.some.inj ei0
  obtain ⟨n0_, m0_⟩ := and_e hn
  obtain ⟨d0, e_d0⟩ := exa_v n0_
  have E_d0 := Exa.start e_d0 n0_
  have S_d0 := Sta.start e_d0 (Or.inr ⟨(hw _ (List.mem_of_getElem? (i := 3) rfl)), (hw _ (List.mem_of_getElem? (i := 4) rfl))⟩)
  obtain ⟨n1_, m1_⟩ := and_e m0_
  obtain ⟨d1, e_d1⟩ := exa_v n1_
  have E_d1 := Exa.start e_d1 n1_
  have S_d1 := Sta.start e_d1 (Or.inr ⟨(hw _ (List.mem_of_getElem? (i := 3) rfl)), (hw _ (List.mem_of_getElem? (i := 7) rfl))⟩)
  obtain ⟨n2_, m2_⟩ := and_e m1_
  obtain ⟨d2, e_d2⟩ := exa_v n2_
  have E_d2 := Exa.start e_d2 n2_
  have S_d2 := Sta.start e_d2 (Or.inr ⟨(hw _ (List.mem_of_getElem? (i := 3) rfl)), (hw _ (List.mem_of_getElem? (i := 9) rfl))⟩)
  obtain ⟨n3_, m3_⟩ := and_e m2_
  obtain ⟨d3, e_d3⟩ := exa_v n3_
  have E_d3 := Exa.start e_d3 n3_
  have S_d3 := Sta.start e_d3 (Or.inr ⟨(hw _ (List.mem_of_getElem? (i := 3) rfl)), (hw _ (List.mem_of_getElem? (i := 11) rfl))⟩)
  obtain ⟨n4_, m4_⟩ := and_e m3_
  obtain ⟨d4, e_d4⟩ := exa_v n4_
  have E_d4 := Exa.start e_d4 n4_
  have S_d4 := Sta.start e_d4 (Or.inr ⟨(hw _ (List.mem_of_getElem? (i := 3) rfl)), (hw _ (List.mem_of_getElem? (i := 13) rfl))⟩)
  obtain ⟨n5_, m5_⟩ := and_e m4_
  obtain ⟨d5, e_d5⟩ := exa_v n5_
  have E_d5 := Exa.start e_d5 n5_
  have S_d5 := Sta.start e_d5 (Or.inr ⟨(hw _ (List.mem_of_getElem? (i := 3) rfl)), (hw _ (List.mem_of_getElem? (i := 15) rfl))⟩)
  obtain ⟨n6_, m6_⟩ := and_e m5_
  obtain ⟨d6, e_d6⟩ := exa_v n6_
  have E_d6 := Exa.start e_d6 n6_
  have S_d6 := Sta.start e_d6 (Or.inr ⟨(hw _ (List.mem_of_getElem? (i := 3) rfl)), (hw _ (List.mem_of_getElem? (i := 17) rfl))⟩)
  obtain ⟨n7_, m7_⟩ := and_e m6_
  obtain ⟨d7, e_d7⟩ := exa_v n7_
  have E_d7 := Exa.start e_d7 n7_
  have S_d7 := Sta.start e_d7 (Or.inr ⟨(hw _ (List.mem_of_getElem? (i := 3) rfl)), (hw _ (List.mem_of_getElem? (i := 19) rfl))⟩)
  obtain ⟨n8_, m8_⟩ := and_e m7_
  obtain ⟨d8, e_d8⟩ := exa_v n8_
  have E_d8 := Exa.start e_d8 n8_
  have S_d8 := Sta.start e_d8 (Or.inr ⟨(hw _ (List.mem_of_getElem? (i := 3) rfl)), (hw _ (List.mem_of_getElem? (i := 21) rfl))⟩)
  obtain ⟨n9_, m9_⟩ := and_e m8_
  obtain ⟨d9, e_d9⟩ := exa_v n9_
  have E_d9 := Exa.start e_d9 n9_
  have S_d9 := Sta.start e_d9 (Or.inr ⟨(hw _ (List.mem_of_getElem? (i := 3) rfl)), (hw _ (List.mem_of_getElem? (i := 23) rfl))⟩)
  obtain ⟨n10_, m10_⟩ := and_e m9_
  obtain ⟨r1, e_r1⟩ := exa_v n10_
  have E_r1 := Exa.start e_r1 n10_
  have S_r1 := Sta.start e_r1 (Or.inr ⟨(hw _ (List.mem_of_getElem? (i := 26) rfl)), (hw _ (List.mem_of_getElem? (i := 27) rfl))⟩)
  obtain ⟨n11_, m11_⟩ := and_e m10_
  obtain ⟨r3, e_r3⟩ := exa_v n11_
  have E_r3 := Exa.start e_r3 n11_
  have S_r3 := Sta.start e_r3 (Or.inr ⟨(hw _ (List.mem_of_getElem? (i := 26) rfl)), (hw _ (List.mem_of_getElem? (i := 29) rfl))⟩)
  obtain ⟨n12_, m12_⟩ := and_e m11_
  obtain ⟨n13_, m13_⟩ := and_e m12_
  obtain ⟨n14_, m14_⟩ := and_e m13_
  obtain ⟨n15_, m15_⟩ := and_e m14_
  obtain ⟨n16_, m16_⟩ := and_e m15_
  obtain ⟨n17_, m17_⟩ := and_e m16_
  obtain ⟨r0, e_r0⟩ := exa_v n17_
  have E_r0 := Exa.start e_r0 n17_
  have S_r0 := Sta.start e_r0 (Or.inr ⟨(hw _ (List.mem_of_getElem? (i := 26) rfl)), (hw _ (List.mem_of_getElem? (i := 62) rfl))⟩)
  obtain ⟨n18_, m18_⟩ := and_e m17_
  obtain ⟨n19_, m19_⟩ := and_e m18_
  obtain ⟨n20_, m20_⟩ := and_e m19_
  obtain ⟨r5, e_r5⟩ := exa_v n20_
  have E_r5 := Exa.start e_r5 n20_
  have S_r5 := Sta.start e_r5 (Or.inr ⟨(hw _ (List.mem_of_getElem? (i := 26) rfl)), (hw _ (List.mem_of_getElem? (i := 64) rfl))⟩)
  obtain ⟨n21_, m21_⟩ := and_e m20_
  obtain ⟨n22_, m22_⟩ := and_e m21_
  obtain ⟨n23_, m23_⟩ := and_e m22_
  obtain ⟨n24_, m24_⟩ := and_e m23_
  obtain ⟨n25_, m25_⟩ := and_e m24_
  obtain ⟨n26_, m26_⟩ := and_e m25_
  obtain ⟨r4, e_r4⟩ := exa_v n26_
  have E_r4 := Exa.start e_r4 n26_
  have S_r4 := Sta.start e_r4 (Or.inr ⟨(hw _ (List.mem_of_getElem? (i := 26) rfl)), (hw _ (List.mem_of_getElem? (i := 69) rfl))⟩)
  obtain ⟨n27_, m27_⟩ := and_e m26_
  obtain ⟨n28_, m28_⟩ := and_e m27_
  have F_d0 := own_fldI e_d0 n12_
  have F_d7 := own_fldI e_d7 n13_
  have F_d8 := own_fldI e_d8 n14_
  have F_d9 := own_fldI e_d9 n15_
  have F_d3 := own_fldI e_d3 n16_
  have F_r3 := own_fldI e_r3 n18_
  have F_r0 := own_fldI e_r0 n19_
  have F_r5 := own_fldI e_r5 n21_
  have F_r1 := own_fldI e_r1 n22_
  have F_d1 := own_fldI e_d1 n23_
  have F_d4 := own_fldI e_d4 n24_
  have F_d2 := own_fldI e_d2 n25_
  have F_r4 := own_fldI e_r4 n27_
  have F_d5 := own_fldI e_d5 n28_
  have F_d6 := own_fldI e_d6 m28_
  obtain ⟨n, o, h1, h2, h3, _, L, rfl, ⟨⟨rfl, -⟩, N⟩, hq⟩ := own_rm0 l s _ hw i0 d0 d1 d2 d3 d4 d5 d6 d7 d8 d9 r1 r3 r0 r5 r4 s.heap s.heap.size (Nat.le_refl _) S_d0 S_d1 S_d2 S_d3 S_d4 S_d5 S_d6 S_d7 S_d8 S_d9 S_r1 S_r3 S_r0 S_r5 S_r4 E_d0 E_d1 E_d2 E_d3 E_d4 E_d5 E_d6 E_d7 E_d8 E_d9 E_r1 E_r3 F_d0 F_d1 F_d2 F_d3 F_d4 F_d5 F_d6 F_d7 F_d8 F_d9 (F_r1.ne F_r3 (by decide)) (F_r1.ne F_r0 (by decide)) (F_r1.ne F_r5 (by decide)) (F_r1.ne F_r4 (by decide)) (F_r3.ne F_r0 (by decide)) (F_r3.ne F_r5 (by decide)) (F_r3.ne F_r4 (by decide)) (F_d0.ne F_d7 (by decide)) (F_d1.ne F_d7 (by decide)) (F_d2.ne F_d7 (by decide)) (F_d3.ne F_d7 (by decide)) (F_d4.ne F_d7 (by decide)) (F_d5.ne F_d7 (by decide)) (F_d6.ne F_d7 (by decide)) (F_d0.ne F_d8 (by decide)) (F_d1.ne F_d8 (by decide)) (F_d2.ne F_d8 (by decide)) (F_d3.ne F_d8 (by decide)) (F_d4.ne F_d8 (by decide)) (F_d5.ne F_d8 (by decide)) (F_d6.ne F_d8 (by decide)) (F_d7.ne F_d8 (by decide)) (F_d0.ne F_d9 (by decide)) (F_d1.ne F_d9 (by decide)) (F_d2.ne F_d9 (by decide)) (F_d3.ne F_d9 (by decide)) (F_d4.ne F_d9 (by decide)) (F_d5.ne F_d9 (by decide)) (F_d6.ne F_d9 (by decide)) (F_d7.ne F_d9 (by decide)) (F_d8.ne F_d9 (by decide)) tables_1 p e ha hc hk s m _ below hf ((Spec.applies_iff_loose hf).mp happ).1 ⟨rfl, State.Warmed39.refl s, rfl⟩ trivial
  exact ⟨n, _, h1, h2, h3, hpost _ _ _ _ _ _ ⟨Cond.after_iff.mpr rfl, Cond.after_iff.mpr (eq_i res_at (Term.int_eval (1)) rfl), trivial⟩ ⟨hq.1, hq.2.1, (hq.2.2.sift fun y hy => Or.inr (N y hy)).mono (by decide) (by decide)⟩⟩
theorem main_1_1 : Claimed_1_1 := own_comes fun _ _ _ _ _ _ h hF => ⟨h.1, hF⟩
theorem main_1_2 : Claimed_1_2 := own_comes fun _ _ _ _ _ _ h hF => ⟨h.2.1, hF⟩
end Jvm.Pilot.@@N@@
namespace Jvm.Pilot.@@N@@
open Jvm Jvm.ClassFile Sem Op Lib Jvm.Free Jvm.Stand Jvm.Pilot.@@N@@.Jvm.D
/-! MADE BY PROGRAM (witnessworld.py) out of the Statement's table words and the real class files: 14 classes; the members and pool entries that the words name. The judged class is class 1, her method 1. -/
namespace start1
open Jvm.ClassFile
def u (s : String) : CpInfo := .utf8 (stringToUtf16 s)
/-- a pool by its gaps: so many unusable entries, then the entry; so many at the end -/
def gap : Nat → List CpInfo → List CpInfo
  | 0, r => r
  | n + 1, r => .unusable :: gap n r
def poolList (es : List (Nat × CpInfo)) (last : Nat) : List CpInfo := es.foldr (fun e r => gap e.1 (e.2 :: r)) (gap last [])
def pool (es : List (Nat × CpInfo)) (last : Nat) : Array CpInfo := ⟨poolList es last⟩
def fileOf (pool : Array CpInfo) (this : Nat) (attrs : Array Attribute := #[]) (ms : Array MethodInfo := #[]) (fl : Nat := 33) (sup : Nat := 0) (ifs : Array Nat := #[]) (fds : Array FieldInfo := #[]) : ClassFile where
  minorVersion := 0
  majorVersion := 65
  constantPool := pool
  accessFlags := fl
  thisClass := this
  superClass := sup
  interfaces := ifs
  fields := fds
  methods := ms
  attributes := attrs
def plain (name : String) (sup : Option ClassId) : Class where
  name := name
  kind := .ordinary
  loader := none
  accessFlags := 33
  super := sup
  interfaces := #[]
  cf := none
  fields := #[]
  methods := #[]
  instanceTypes := #[]
  staticTypes := #[]
  resolved := #[]
  callSites := []
  init := .initialized
  statics := none
  mirror := none

def pool0 : Array CpInfo := pool [(5, u "<init>"), (0, u "()V"), (1, .class_ 10), (1, u "java/lang/Object")] 113

def k0m0 : Method := { name := "<init>", desc := "()V", sig := { parameters := [], returnType := none }, accessFlags := 1, code := none }
/-- java/lang/Object -/
def k0 : Class := { plain "java/lang/Object" none with
  accessFlags := 33
  interfaces := #[]
  cf := some (fileOf pool0 8 #[] #[{ accessFlags := 1, nameIndex := 5, descriptorIndex := 6, attributes := #[] }] 33 0 #[] #[])
  fields := #[]
  methods := #[k0m0]
  instanceTypes := #[]
  staticTypes := #[]
  resolved := Array.replicate 124 none
  statics := none }

def pool1 : Array CpInfo := pool [(2, .class_ 4), (1, u "java/lang/Object"), (0, u "<init>"), (0, u "()V"), (0, .class_ 8), (0, u "com/example/imhotep/imhotep/core/Trigger"), (0, .fieldref 7 10), (0, .nameAndType 11 12), (0, u "ADD"), (0, u "Lcom/example/imhotep/imhotep/core/Trigger;"), (0, .fieldref 7 14), (0, .nameAndType 15 12), (0, u "START"), (0, .fieldref 7 17), (0, .nameAndType 18 12), (0, u "EXIT"), (0, .fieldref 7 20), (0, .nameAndType 21 12), (0, u "HOLDER_DIED"), (0, .fieldref 7 23), (0, .nameAndType 24 12), (0, u "HEARTBEAT_LAPSED"), (0, .fieldref 7 26), (0, .nameAndType 27 12), (0, u "SUPERSEDED"), (0, .fieldref 7 29), (0, .nameAndType 30 12), (0, u "TIME_LIMIT"), (0, .fieldref 7 32), (0, .nameAndType 33 12), (0, u "PHASE_COMPLETE"), (0, .fieldref 7 35), (0, .nameAndType 36 12), (0, u "APPROVED"), (0, .fieldref 7 38), (0, .nameAndType 39 12), (0, u "CHANGES_REQUESTED"), (0, .integer 2147483647), (0, .fieldref 42 43), (0, .class_ 44), (0, .nameAndType 45 46), (0, u "com/example/imhotep/imhotep/core/TaskState"), (0, u "RUNNING"), (0, u "Lcom/example/imhotep/imhotep/core/TaskState;"), (0, .fieldref 42 48), (0, .nameAndType 49 46), (0, u "REVIEW"), (0, .methodref 7 51), (0, .nameAndType 52 53), (0, u "allows"), (0, u "(Lcom/example/imhotep/imhotep/core/TaskState;Lcom/example/imhotep/imhotep/core/TaskState;)Z"), (0, .methodref 7 55), (0, .nameAndType 56 57), (0, u "namesPhase"), (0, u "()Z"), (0, .class_ 59), (0, u "com/example/imhotep/imhotep/core/TriggerNamesPhasePinLaw"), (2, u "law"), (0, u "(I)Z")] 5

def k1m0 : Method := { name := "<init>", desc := "()V", sig := { parameters := [], returnType := none }, accessFlags := 2, code := none }
def k1c1 : Code := { maxStack := 4, maxLocals := 6, code := code, exceptionTable := #[], attributes := #[] }
def k1m1 : Method := { name := "law", desc := "(I)Z", sig := { parameters := [.int], returnType := some .boolean }, accessFlags := 9, code := some k1c1 }
/-- com/example/imhotep/imhotep/core/TriggerNamesPhasePinLaw -/
def k1 : Class := { plain "com/example/imhotep/imhotep/core/TriggerNamesPhasePinLaw" (some 0) with
  accessFlags := 49
  interfaces := #[]
  cf := some (fileOf pool1 58 #[] #[{ accessFlags := 2, nameIndex := 5, descriptorIndex := 6, attributes := #[] }, { accessFlags := 9, nameIndex := 62, descriptorIndex := 63, attributes := #[] }] 49 2 #[] #[])
  fields := #[]
  methods := #[k1m0, k1m1]
  instanceTypes := #[]
  staticTypes := #[]
  resolved := Array.replicate 69 none
  statics := none }

def pool2 : Array CpInfo := pool [(1, .class_ 2), (0, u "java/lang/constant/Constable"), (0, .class_ 4), (0, u "java/lang/Object")] 6

/-- java/lang/constant/Constable -/
def k2 : Class := { plain "java/lang/constant/Constable" (some 0) with
  accessFlags := 1537
  interfaces := #[]
  cf := some (fileOf pool2 1 #[] #[] 1537 3 #[] #[])
  fields := #[]
  methods := #[]
  instanceTypes := #[]
  staticTypes := #[]
  resolved := Array.replicate 11 none
  statics := none }

def pool3 : Array CpInfo := pool [(1, .class_ 2), (0, u "java/lang/Comparable"), (0, .class_ 4), (0, u "java/lang/Object")] 7

/-- java/lang/Comparable -/
def k3 : Class := { plain "java/lang/Comparable" (some 0) with
  accessFlags := 1537
  interfaces := #[]
  cf := some (fileOf pool3 1 #[] #[] 1537 3 #[] #[])
  fields := #[]
  methods := #[]
  instanceTypes := #[]
  staticTypes := #[]
  resolved := Array.replicate 12 none
  statics := none }

def pool4 : Array CpInfo := pool [(1, .class_ 2), (0, u "java/io/Serializable"), (0, .class_ 4), (0, u "java/lang/Object")] 2

/-- java/io/Serializable -/
def k4 : Class := { plain "java/io/Serializable" (some 0) with
  accessFlags := 1537
  interfaces := #[]
  cf := some (fileOf pool4 1 #[] #[] 1537 3 #[] #[])
  fields := #[]
  methods := #[]
  instanceTypes := #[]
  staticTypes := #[]
  resolved := Array.replicate 7 none
  statics := none }

def pool5 : Array CpInfo := pool [(2, .class_ 4), (1, u "java/lang/Enum"), (0, u "name"), (0, u "Ljava/lang/String;"), (0, .fieldref 2 8), (0, .nameAndType 9 10), (0, u "ordinal"), (0, u "I"), (1, .class_ 14), (1, u "java/lang/Object"), (4, u "hash"), (86, .class_ 108), (1, u "java/lang/Enum$EnumDesc"), (2, .class_ 112), (0, u "java/lang/constant/Constable"), (0, .class_ 114), (0, u "java/lang/Comparable"), (0, .class_ 116), (0, u "java/io/Serializable"), (9, u "()I")] 77

def k5c0 : Code := { maxStack := 1, maxLocals := 1, code := jdk_37_method_2_code, exceptionTable := #[], attributes := #[] }
def k5m0 : Method := { name := "ordinal", desc := "()I", sig := { parameters := [], returnType := some .int }, accessFlags := 17, code := some k5c0 }
/-- java/lang/Enum -/
def k5 : Class := { plain "java/lang/Enum" (some 0) with
  accessFlags := 1057
  interfaces := #[2, 3, 4]
  cf := some (fileOf pool5 2 #[.nestMembers #[106]] #[{ accessFlags := 17, nameIndex := 9, descriptorIndex := 126, attributes := #[] }] 1057 12 #[111, 113, 115] #[{ accessFlags := 18, nameIndex := 5, descriptorIndex := 6, attributes := #[] }, { accessFlags := 18, nameIndex := 9, descriptorIndex := 10, attributes := #[] }, { accessFlags := 2, nameIndex := 19, descriptorIndex := 10, attributes := #[] }])
  fields := #[{ name := "name", type := (.object "java/lang/String"), accessFlags := 18, slot := 0, constantValue := 0 }, { name := "ordinal", type := .int, accessFlags := 18, slot := 1, constantValue := 0 }, { name := "hash", type := .int, accessFlags := 2, slot := 2, constantValue := 0 }]
  methods := #[k5m0]
  instanceTypes := #[(.object "java/lang/String"), .int, .int]
  staticTypes := #[]
  resolved := Array.replicate 204 none
  statics := none }

def pool6 : Array CpInfo := pool [(1, .class_ 2), (0, u "com/example/imhotep/imhotep/core/Trigger"), (2, u "ADD"), (0, u "Lcom/example/imhotep/imhotep/core/Trigger;"), (2, u "START"), (2, u "EXIT"), (2, u "HOLDER_DIED"), (2, u "HEARTBEAT_LAPSED"), (2, u "SUPERSEDED"), (2, u "TIME_LIMIT"), (0, .fieldref 1 26), (0, .nameAndType 27 6), (0, u "PHASE_COMPLETE"), (0, .fieldref 1 29), (0, .nameAndType 30 6), (0, u "APPROVED"), (0, .fieldref 1 32), (0, .nameAndType 33 6), (0, u "CHANGES_REQUESTED"), (2, u "$VALUES"), (0, u "[Lcom/example/imhotep/imhotep/core/Trigger;"), (6, .class_ 46), (1, u "java/lang/Enum"), (15, .methodref 1 63), (0, .nameAndType 64 65), (0, u "ordinal"), (0, u "()I"), (5, .fieldref 72 73), (0, .class_ 74), (0, .nameAndType 75 76), (0, u "com/example/imhotep/imhotep/core/TaskState"), (0, u "PENDING"), (0, u "Lcom/example/imhotep/imhotep/core/TaskState;"), (0, .fieldref 72 78), (0, .nameAndType 79 76), (0, u "RUNNING"), (0, .fieldref 72 81), (0, .nameAndType 82 76), (0, u "DONE"), (0, .methodref 1 84), (0, .nameAndType 85 86), (0, u "failsHeld"), (0, u "(Lcom/example/imhotep/imhotep/core/TaskState;Lcom/example/imhotep/imhotep/core/TaskState;)Z"), (0, .fieldref 72 88), (0, .nameAndType 89 76), (0, u "REVIEW"), (0, .methodref 72 91), (0, .nameAndType 92 93), (0, u "isHeld"), (0, u "()Z"), (0, .fieldref 72 95), (0, .nameAndType 96 76), (0, u "FAILED"), (25, u "allows"), (1, u "namesPhase")] 4

def k6c0 : Code := { maxStack := 4, maxLocals := 3, code := prog_36_method_6_code, exceptionTable := #[], attributes := #[] }
def k6m0 : Method := { name := "allows", desc := "(Lcom/example/imhotep/imhotep/core/TaskState;Lcom/example/imhotep/imhotep/core/TaskState;)Z", sig := { parameters := [(.object "com/example/imhotep/imhotep/core/TaskState"), (.object "com/example/imhotep/imhotep/core/TaskState")], returnType := some .boolean }, accessFlags := 1, code := some k6c0 }
def k6c1 : Code := { maxStack := 2, maxLocals := 1, code := prog_36_method_7_code, exceptionTable := #[], attributes := #[] }
def k6m1 : Method := { name := "namesPhase", desc := "()Z", sig := { parameters := [], returnType := some .boolean }, accessFlags := 0, code := some k6c1 }
def k6c2 : Code := { maxStack := 2, maxLocals := 2, code := prog_36_method_8_code, exceptionTable := #[], attributes := #[] }
def k6m2 : Method := { name := "failsHeld", desc := "(Lcom/example/imhotep/imhotep/core/TaskState;Lcom/example/imhotep/imhotep/core/TaskState;)Z", sig := { parameters := [(.object "com/example/imhotep/imhotep/core/TaskState"), (.object "com/example/imhotep/imhotep/core/TaskState")], returnType := some .boolean }, accessFlags := 10, code := some k6c2 }
/-- com/example/imhotep/imhotep/core/Trigger -/
def k6 : Class := { plain "com/example/imhotep/imhotep/core/Trigger" (some 5) with
  accessFlags := 16433
  interfaces := #[]
  cf := some (fileOf pool6 1 #[] #[{ accessFlags := 1, nameIndex := 122, descriptorIndex := 86, attributes := #[] }, { accessFlags := 0, nameIndex := 124, descriptorIndex := 93, attributes := #[] }, { accessFlags := 10, nameIndex := 85, descriptorIndex := 86, attributes := #[] }] 16433 44 #[] #[{ accessFlags := 16409, nameIndex := 5, descriptorIndex := 6, attributes := #[] }, { accessFlags := 16409, nameIndex := 9, descriptorIndex := 6, attributes := #[] }, { accessFlags := 16409, nameIndex := 12, descriptorIndex := 6, attributes := #[] }, { accessFlags := 16409, nameIndex := 15, descriptorIndex := 6, attributes := #[] }, { accessFlags := 16409, nameIndex := 18, descriptorIndex := 6, attributes := #[] }, { accessFlags := 16409, nameIndex := 21, descriptorIndex := 6, attributes := #[] }, { accessFlags := 16409, nameIndex := 24, descriptorIndex := 6, attributes := #[] }, { accessFlags := 16409, nameIndex := 27, descriptorIndex := 6, attributes := #[] }, { accessFlags := 16409, nameIndex := 30, descriptorIndex := 6, attributes := #[] }, { accessFlags := 16409, nameIndex := 33, descriptorIndex := 6, attributes := #[] }, { accessFlags := 4122, nameIndex := 36, descriptorIndex := 37, attributes := #[] }])
  fields := #[{ name := "ADD", type := (.object "com/example/imhotep/imhotep/core/Trigger"), accessFlags := 16409, slot := 0, constantValue := 0 }, { name := "START", type := (.object "com/example/imhotep/imhotep/core/Trigger"), accessFlags := 16409, slot := 1, constantValue := 0 }, { name := "EXIT", type := (.object "com/example/imhotep/imhotep/core/Trigger"), accessFlags := 16409, slot := 2, constantValue := 0 }, { name := "HOLDER_DIED", type := (.object "com/example/imhotep/imhotep/core/Trigger"), accessFlags := 16409, slot := 3, constantValue := 0 }, { name := "HEARTBEAT_LAPSED", type := (.object "com/example/imhotep/imhotep/core/Trigger"), accessFlags := 16409, slot := 4, constantValue := 0 }, { name := "SUPERSEDED", type := (.object "com/example/imhotep/imhotep/core/Trigger"), accessFlags := 16409, slot := 5, constantValue := 0 }, { name := "TIME_LIMIT", type := (.object "com/example/imhotep/imhotep/core/Trigger"), accessFlags := 16409, slot := 6, constantValue := 0 }, { name := "PHASE_COMPLETE", type := (.object "com/example/imhotep/imhotep/core/Trigger"), accessFlags := 16409, slot := 7, constantValue := 0 }, { name := "APPROVED", type := (.object "com/example/imhotep/imhotep/core/Trigger"), accessFlags := 16409, slot := 8, constantValue := 0 }, { name := "CHANGES_REQUESTED", type := (.object "com/example/imhotep/imhotep/core/Trigger"), accessFlags := 16409, slot := 9, constantValue := 0 }, { name := "$VALUES", type := (.array (.object "com/example/imhotep/imhotep/core/Trigger")), accessFlags := 4122, slot := 10, constantValue := 0 }]
  methods := #[k6m0, k6m1, k6m2]
  instanceTypes := #[(.object "java/lang/String"), .int, .int]
  staticTypes := #[(.object "com/example/imhotep/imhotep/core/Trigger"), (.object "com/example/imhotep/imhotep/core/Trigger"), (.object "com/example/imhotep/imhotep/core/Trigger"), (.object "com/example/imhotep/imhotep/core/Trigger"), (.object "com/example/imhotep/imhotep/core/Trigger"), (.object "com/example/imhotep/imhotep/core/Trigger"), (.object "com/example/imhotep/imhotep/core/Trigger"), (.object "com/example/imhotep/imhotep/core/Trigger"), (.object "com/example/imhotep/imhotep/core/Trigger"), (.object "com/example/imhotep/imhotep/core/Trigger"), (.array (.object "com/example/imhotep/imhotep/core/Trigger"))]
  resolved := Array.replicate 129 none
  statics := some 0 }

def pool7 : Array CpInfo := pool [(1, .class_ 2), (0, u "com/example/imhotep/imhotep/core/TaskState"), (2, u "PENDING"), (0, u "Lcom/example/imhotep/imhotep/core/TaskState;"), (0, .fieldref 1 8), (0, .nameAndType 9 6), (0, u "RUNNING"), (2, u "PAUSED"), (0, .fieldref 1 14), (0, .nameAndType 15 6), (0, u "REVIEW"), (2, u "DONE"), (2, u "FAILED"), (2, u "CANCELLED"), (2, u "$VALUES"), (0, u "[Lcom/example/imhotep/imhotep/core/TaskState;"), (6, .class_ 37), (1, u "java/lang/Enum"), (36, u "isHeld"), (0, u "()Z")] 6

def k7c0 : Code := { maxStack := 2, maxLocals := 1, code := prog_32_method_5_code, exceptionTable := #[], attributes := #[] }
def k7m0 : Method := { name := "isHeld", desc := "()Z", sig := { parameters := [], returnType := some .boolean }, accessFlags := 1, code := some k7c0 }
/-- com/example/imhotep/imhotep/core/TaskState -/
def k7 : Class := { plain "com/example/imhotep/imhotep/core/TaskState" (some 5) with
  accessFlags := 16433
  interfaces := #[]
  cf := some (fileOf pool7 1 #[] #[{ accessFlags := 1, nameIndex := 74, descriptorIndex := 75, attributes := #[] }] 16433 35 #[] #[{ accessFlags := 16409, nameIndex := 5, descriptorIndex := 6, attributes := #[] }, { accessFlags := 16409, nameIndex := 9, descriptorIndex := 6, attributes := #[] }, { accessFlags := 16409, nameIndex := 12, descriptorIndex := 6, attributes := #[] }, { accessFlags := 16409, nameIndex := 15, descriptorIndex := 6, attributes := #[] }, { accessFlags := 16409, nameIndex := 18, descriptorIndex := 6, attributes := #[] }, { accessFlags := 16409, nameIndex := 21, descriptorIndex := 6, attributes := #[] }, { accessFlags := 16409, nameIndex := 24, descriptorIndex := 6, attributes := #[] }, { accessFlags := 4122, nameIndex := 27, descriptorIndex := 28, attributes := #[] }])
  fields := #[{ name := "PENDING", type := (.object "com/example/imhotep/imhotep/core/TaskState"), accessFlags := 16409, slot := 0, constantValue := 0 }, { name := "RUNNING", type := (.object "com/example/imhotep/imhotep/core/TaskState"), accessFlags := 16409, slot := 1, constantValue := 0 }, { name := "PAUSED", type := (.object "com/example/imhotep/imhotep/core/TaskState"), accessFlags := 16409, slot := 2, constantValue := 0 }, { name := "REVIEW", type := (.object "com/example/imhotep/imhotep/core/TaskState"), accessFlags := 16409, slot := 3, constantValue := 0 }, { name := "DONE", type := (.object "com/example/imhotep/imhotep/core/TaskState"), accessFlags := 16409, slot := 4, constantValue := 0 }, { name := "FAILED", type := (.object "com/example/imhotep/imhotep/core/TaskState"), accessFlags := 16409, slot := 5, constantValue := 0 }, { name := "CANCELLED", type := (.object "com/example/imhotep/imhotep/core/TaskState"), accessFlags := 16409, slot := 6, constantValue := 0 }, { name := "$VALUES", type := (.array (.object "com/example/imhotep/imhotep/core/TaskState")), accessFlags := 4122, slot := 7, constantValue := 0 }]
  methods := #[k7m0]
  instanceTypes := #[(.object "java/lang/String"), .int, .int]
  staticTypes := #[(.object "com/example/imhotep/imhotep/core/TaskState"), (.object "com/example/imhotep/imhotep/core/TaskState"), (.object "com/example/imhotep/imhotep/core/TaskState"), (.object "com/example/imhotep/imhotep/core/TaskState"), (.object "com/example/imhotep/imhotep/core/TaskState"), (.object "com/example/imhotep/imhotep/core/TaskState"), (.object "com/example/imhotep/imhotep/core/TaskState"), (.array (.object "com/example/imhotep/imhotep/core/TaskState"))]
  resolved := Array.replicate 82 none
  statics := some 1 }

def pool8 : Array CpInfo := pool [(1, u "java/lang/Cloneable"), (0, .class_ 1), (0, u "java/lang/Object"), (0, .class_ 3)] 3

/-- java/lang/Cloneable -/
def k8 : Class := { plain "java/lang/Cloneable" (some 0) with
  accessFlags := 1537
  interfaces := #[]
  cf := some (fileOf pool8 2 #[] #[] 1537 4 #[] #[])
  fields := #[]
  methods := #[]
  instanceTypes := #[]
  staticTypes := #[]
  resolved := Array.replicate 8 none
  statics := none }

/-- the primitive byte -/
def k9 : Class := { plain "byte" none with kind := .primitive 'B', accessFlags := 0x411 }
/-- [B -/
def k10 : Class := { plain "[B" (some 0) with kind := .array 9 .byte, interfaces := #[8, 4], accessFlags := 1041 }

/-- the primitive int -/
def k11 : Class := { plain "int" none with kind := .primitive 'I', accessFlags := 0x411 }
/-- [I -/
def k12 : Class := { plain "[I" (some 0) with kind := .array 11 .int, interfaces := #[8, 4], accessFlags := 1041 }

/-- [Lcom/example/imhotep/imhotep/core/Trigger; -/
def k13 : Class := { plain "[Lcom/example/imhotep/imhotep/core/Trigger;" (some 0) with kind := .array 6 (.object "com/example/imhotep/imhotep/core/Trigger"), interfaces := #[8, 4], accessFlags := 1041 }

def heap : Heap := #[{ cls := 6, slots := #[.ref 2, .ref 3, .ref 4, .ref 5, .ref 6, .ref 7, .ref 8, .ref 9, .ref 10, .ref 11, .null], vm := .statics 6 },
  { cls := 7, slots := #[.ref 14, .ref 12, .null, .ref 13, .ref 16, .ref 15, .null, .null], vm := .statics 7 },
  { cls := 6, slots := #[.null, .int 0, .int 0], vm := .none },
  { cls := 6, slots := #[.null, .int 1, .int 0], vm := .none },
  { cls := 6, slots := #[.null, .int 2, .int 0], vm := .none },
  { cls := 6, slots := #[.null, .int 3, .int 0], vm := .none },
  { cls := 6, slots := #[.null, .int 4, .int 0], vm := .none },
  { cls := 6, slots := #[.null, .int 5, .int 0], vm := .none },
  { cls := 6, slots := #[.null, .int 6, .int 0], vm := .none },
  { cls := 6, slots := #[.null, .int 7, .int 0], vm := .none },
  { cls := 6, slots := #[.null, .int 8, .int 0], vm := .none },
  { cls := 6, slots := #[.null, .int 9, .int 0], vm := .none },
  { cls := 7, slots := #[.null, .int 1, .int 0], vm := .none },
  { cls := 7, slots := #[.null, .int 3, .int 0], vm := .none },
  { cls := 7, slots := #[.null, .int 0, .int 0], vm := .none },
  { cls := 7, slots := #[.null, .int 5, .int 0], vm := .none },
  { cls := 7, slots := #[.null, .int 4, .int 0], vm := .none }]
def classes : Array Class := #[k0, k1, k2, k3, k4, k5, k6, k7, k8, k9, k10, k11, k12, k13]
def interned : List (Array UInt16 × Addr) := []
def slotsUsed : Nat := 64
def theMethod : MethodId := ⟨1, 1⟩
def args0 : Array Value := #[.int 5]
def aboutOver (below : List Frame) : State where
  vm := { classes := classes, interned := interned.toArray }
  heap := heap
  slotsUsed := slotsUsed
  threads := #[{ frames := .invoking theMethod args0 :: below }]
def below0 : List Frame := [.native { method := ⟨0, 0⟩, args := #[] }]
def about1 : State := aboutOver below0
def p0 : Program := .bare "" "" ""
def e0 : Env := launch0.env 0 0 0
theorem w_frames : about1.frames = Frame.invoking theMethod args0 :: below0 := rfl
set_option maxRecDepth 65536 in
theorem w_args : argsFit about1.vm theMethod args0 = true := by decide +kernel
set_option maxRecDepth 65536 in
theorem w_heap : heapFits about1 = true := by decide +kernel
set_option maxRecDepth 65536 in
theorem w_runnable : about1.curStatus? = some .runnable := by decide +kernel
set_option maxRecDepth 65536 in
theorem w_alone : about1.alone = true := by decide +kernel
set_option maxRecDepth 65536 in
theorem w_named : about1.methodNamed? x = some theMethod := by decide +kernel
set_option maxRecDepth 65536 in
theorem w_hears : about1.hears theMethod below0 = true := by decide +kernel
set_option maxRecDepth 65536 in
theorem w_ripe : about1.ripe theMethod args0 below0 = true := by decide +kernel
theorem w_running : about1.status = .running := rfl
set_option maxRecDepth 65536 in
theorem w_room : about1.hasRoom e0.platform room_1 = true :=
  launch0.hasRoom_least _ room_1 (by decide +kernel) (by decide +kernel) (by decide +kernel) (by decide +kernel) (by decide +kernel) (by decide +kernel)
theorem allAtoms_all (ts : List Jvm.Cond) (a : Array Jvm.Value) (st : Jvm.State) : (allAtoms ts).before a st = ts.all (fun c => c.before a st) := by
  induction ts with
  | nil => rfl
  | cons c t ih =>
    show (Jvm.Cond.and c (allAtoms t)).before a st = _
    rw [Jvm.Cond.before_and, ih, List.all_cons]
def words1 : List Jvm.Cond := Jvm.Cond.code x code maxLocals ret :: tables_1
/-- a 'code' word, met by the world's own term for the bytes: nothing is compared byte by byte -/
theorem code_word {y : MethodName} {bytes : ByteArray} {mx : Nat} {rt : Option FieldType} {a : Array Value} {s : State} {m : MethodId} {meth : Method} {c : Code} (h1 : s.methodNamed? y = some m) (h2 : s.vm.method? m = some meth) (h3 : meth.code = some c) (h4 : c.code = bytes)
    (h5 : (c.maxLocals == mx && c.exceptionTable.isEmpty && decide (c.maxStack ≤ mostOperands) && decide (meth.sig.returnType = rt) && !meth.locks && decide (parseMethodDescriptor y.desc = some meth.sig)) = true) : (Jvm.Cond.code y bytes mx rt).before a s = true := by
  simp only [Bool.and_eq_true, beq_iff_eq, Bool.not_eq_true', decide_eq_true_eq] at h5
  obtain ⟨⟨⟨⟨⟨g1, g2⟩, g3⟩, g4⟩, g5⟩, g6⟩ := h5
  simp [Cond.before, Cond.holds, Cond.value, h1, h2, h3, h4, g1, g2, g3, g4, g5, g6]
def isCode : Jvm.Cond → Bool
  | .code _ _ _ _ => true
  | _ => false
theorem all_split {L : List Jvm.Cond} {P : Jvm.Cond → Bool} (h1 : L.all (fun c => isCode c || P c) = true) (h2 : ∀ c ∈ L.filter isCode, P c = true) : L.all P = true := by
  refine List.all_eq_true.mpr fun c hc => ?_
  have h := List.all_eq_true.mp h1 c hc
  rcases Bool.eq_false_or_eq_true (isCode c) with hi | hi
  · exact h2 c (List.mem_filter.mpr ⟨hc, hi⟩)
  · simpa [hi] using h
set_option maxRecDepth 65536 in
theorem w_c0 : (Jvm.Cond.code x code maxLocals ret).before args0 about1 = true := code_word (m := ⟨1, 1⟩) (meth := k1m1) (c := k1c1) (by decide +kernel) rfl rfl rfl (by decide +kernel)
set_option maxRecDepth 65536 in
theorem w_c1 : (Jvm.Cond.code ({ cls := "com/example/imhotep/imhotep/core/Trigger", name := "allows", desc := "(Lcom/example/imhotep/imhotep/core/TaskState;Lcom/example/imhotep/imhotep/core/TaskState;)Z" } : Jvm.MethodName) prog_36_method_6_code (3 : Nat) (Option.some Jvm.ClassFile.FieldType.boolean)).before args0 about1 = true := code_word (m := ⟨6, 0⟩) (meth := k6m0) (c := k6c0) (by decide +kernel) rfl rfl rfl (by decide +kernel)
set_option maxRecDepth 65536 in
theorem w_c2 : (Jvm.Cond.code ({ cls := "java/lang/Enum", name := "ordinal", desc := "()I" } : Jvm.MethodName) jdk_37_method_2_code (1 : Nat) (Option.some Jvm.ClassFile.FieldType.int)).before args0 about1 = true := code_word (m := ⟨5, 0⟩) (meth := k5m0) (c := k5c0) (by decide +kernel) rfl rfl rfl (by decide +kernel)
set_option maxRecDepth 65536 in
theorem w_c3 : (Jvm.Cond.code ({ cls := "com/example/imhotep/imhotep/core/Trigger", name := "namesPhase", desc := "()Z" } : Jvm.MethodName) prog_36_method_7_code (1 : Nat) (Option.some Jvm.ClassFile.FieldType.boolean)).before args0 about1 = true := code_word (m := ⟨6, 1⟩) (meth := k6m1) (c := k6c1) (by decide +kernel) rfl rfl rfl (by decide +kernel)
set_option maxRecDepth 65536 in
theorem w_c4 : (Jvm.Cond.code ({ cls := "com/example/imhotep/imhotep/core/Trigger", name := "failsHeld", desc := "(Lcom/example/imhotep/imhotep/core/TaskState;Lcom/example/imhotep/imhotep/core/TaskState;)Z" } : Jvm.MethodName) prog_36_method_8_code (2 : Nat) (Option.some Jvm.ClassFile.FieldType.boolean)).before args0 about1 = true := code_word (m := ⟨6, 2⟩) (meth := k6m2) (c := k6c2) (by decide +kernel) rfl rfl rfl (by decide +kernel)
set_option maxRecDepth 65536 in
theorem w_c5 : (Jvm.Cond.code ({ cls := "com/example/imhotep/imhotep/core/TaskState", name := "isHeld", desc := "()Z" } : Jvm.MethodName) prog_32_method_5_code (1 : Nat) (Option.some Jvm.ClassFile.FieldType.boolean)).before args0 about1 = true := code_word (m := ⟨7, 0⟩) (meth := k7m0) (c := k7c0) (by decide +kernel) rfl rfl rfl (by decide +kernel)
def codes1 : List Jvm.Cond := [Jvm.Cond.code x code maxLocals ret, Jvm.Cond.code ({ cls := "com/example/imhotep/imhotep/core/Trigger", name := "allows", desc := "(Lcom/example/imhotep/imhotep/core/TaskState;Lcom/example/imhotep/imhotep/core/TaskState;)Z" } : Jvm.MethodName) prog_36_method_6_code (3 : Nat) (Option.some Jvm.ClassFile.FieldType.boolean), Jvm.Cond.code ({ cls := "java/lang/Enum", name := "ordinal", desc := "()I" } : Jvm.MethodName) jdk_37_method_2_code (1 : Nat) (Option.some Jvm.ClassFile.FieldType.int), Jvm.Cond.code ({ cls := "com/example/imhotep/imhotep/core/Trigger", name := "namesPhase", desc := "()Z" } : Jvm.MethodName) prog_36_method_7_code (1 : Nat) (Option.some Jvm.ClassFile.FieldType.boolean), Jvm.Cond.code ({ cls := "com/example/imhotep/imhotep/core/Trigger", name := "failsHeld", desc := "(Lcom/example/imhotep/imhotep/core/TaskState;Lcom/example/imhotep/imhotep/core/TaskState;)Z" } : Jvm.MethodName) prog_36_method_8_code (2 : Nat) (Option.some Jvm.ClassFile.FieldType.boolean), Jvm.Cond.code ({ cls := "com/example/imhotep/imhotep/core/TaskState", name := "isHeld", desc := "()Z" } : Jvm.MethodName) prog_32_method_5_code (1 : Nat) (Option.some Jvm.ClassFile.FieldType.boolean)]
set_option maxRecDepth 65536 in
theorem codes_eq : words1.filter isCode = codes1 := rfl
theorem w_codes : ∀ c ∈ words1.filter isCode, c.before args0 about1 = true := by
  rw [codes_eq]
  intro c hc
  simp only [codes1, List.mem_cons, List.not_mem_nil, or_false] at hc
  rcases hc with rfl | rfl | rfl | rfl | rfl | rfl
  · exact w_c0
  · exact w_c1
  · exact w_c2
  · exact w_c3
  · exact w_c4
  · exact w_c5
set_option maxRecDepth 65536 in
theorem w_t1 : (words1.take 24).all (fun c => isCode c || c.before args0 about1) = true := by decide +kernel
set_option maxRecDepth 65536 in
theorem w_t2 : ((words1.drop 24).take 24).all (fun c => isCode c || c.before args0 about1) = true := by decide +kernel
set_option maxRecDepth 65536 in
theorem w_t3 : ((words1.drop 24).drop 24).all (fun c => isCode c || c.before args0 about1) = true := by decide +kernel
theorem w_tables : (allAtoms (Jvm.Cond.code x code maxLocals ret :: tables_1)).before args0 about1 = true := by
  rw [allAtoms_all]
  show words1.all (fun c => c.before args0 about1) = true
  refine all_split ?_ w_codes
  rw [← List.take_append_drop 24 words1, List.all_append, w_t1, ← List.take_append_drop 24 (words1.drop 24), List.all_append, w_t2, w_t3]
  rfl
set_option maxRecDepth 65536 in
theorem w_case : (Jvm.Cond.and given_1 narrow_1).before args0 about1 = true := by decide +kernel
theorem w_applies : (headSpec (Jvm.Cond.code x code maxLocals ret :: tables_1) room_1).applies x e0.platform about1 = true :=
  (Spec.applies_iff w_frames).mpr ⟨w_running, w_runnable, w_alone, w_named, w_hears, w_ripe, w_room, w_tables⟩
theorem atStart : AtStart classFile x code maxLocals ret World_1 tables_1 room_1 Calls_1 rest_1 Pre_1 launch0 p0 e0 about1 theMethod args0 below0 :=
  ⟨lists_1, trivial, launch0.admits_env _ _ _, launch0.least_env, fairChoices_fair.cas, fairChoices_fair.clock, w_frames, w_args, w_heap, w_applies, trivial, trivial, w_case⟩
end start1
theorem witness_1 : WitnessClaimed_1 := ⟨start1.p0, start1.e0, start1.about1, start1.theMethod, start1.args0, start1.below0, start1.atStart⟩
end Jvm.Pilot.@@N@@
