import JvmDerived
import JvmDerived.Pilot.@@N@@Statement
import JvmDerived.Pilot.@@N@@Code
set_option linter.unusedVariables false
set_option linter.unusedSimpArgs false
namespace Jvm.Pilot.@@N@@
open Jvm Jvm.ClassFile Sem Op Lib Jvm.Free Jvm.Stand Jvm.LawKit Jvm.RoadKit Bundle Jvm.Pilot.@@N@@.Jvm.D
/-! ## own kit: one walk of a body in continuation style; the library's step laws of one family behind it -/
section OwnKit
variable {p : Program} {l : Launch} {e : Env} {R : Room} {s : State} {m : MethodId} {args : Array Value} {below : List Frame} {meth : Method} {c : Code} {Z : State} {own : String} {bytes : ByteArray} {maxL : Nat} {ret : Option FieldType} {nm : String} {n0 km : Nat} {Q : Option Value → Heap → Prop} {RR : State → Outcome → Prop} {T : State} {h : Heap} {cells slots : Nat} {a0 : Array Value} {pc pc' : Nat} {Ls : Array Slot} {S : List Value}
def OwnGo (p : Program) (e : Env) (below : List Frame) (S : State) (RR : State → Outcome → Prop) : Prop :=
  ∃ s₂ o, Steps p.tables e below S s₂ ∧ s₂.status = .running ∧ Ended s₂ below o ∧ RR s₂ o
theorem own_step {S S' : State} (k : OwnGo p e below S' RR) (h : ∀ t, Steps p.tables e below S' t → Steps p.tables e below S t) : OwnGo p e below S RR := by
  obtain ⟨s₂, o, h1, h2⟩ := k
  exact ⟨s₂, o, h _ h1, h2⟩
/-- the context of one body: what holds all along its walk -/
def OwnCx (p : Program) (l : Launch) (e : Env) (R : Room) (s : State) (m : MethodId) (meth : Method) (c : Code) (Z : State) (own : String) (bytes : ByteArray) (maxL : Nat) (ret : Option FieldType) (nm : String) (n0 km : Nat) (Q : Option Value → Heap → Prop) (RR : State → Outcome → Prop) : Prop :=
  p.tables.exec = Jvm.exec ∧ c.code = bytes ∧ c.maxLocals = maxL ∧ Z.Warmed39 s.vm ∧ s.vm.findClass own = some m.cls ∧ meth.name = nm ∧ meth.sig.returnType = ret ∧ meth.locks = false ∧
  ∀ (U : State) (v : Option Value) (L : List Loc), Q v U.heap → km ≤ U.heap.size → Fr n0 L → s.WarmedH U.vm → s.sameButNew ({ U with vm := s.vm } : State) L R.cells R.slots → RR U (.returned v)
/-- where the walk stands: the state T, its heap h, so many cells and slots made -/
def OwnSt (p : Program) (l : Launch) (e : Env) (R : Room) (s : State) (m : MethodId) (args : Array Value) (below : List Frame) (meth : Method) (c : Code) (Z : State) (own : String) (bytes : ByteArray) (maxL : Nat) (ret : Option FieldType) (nm : String) (n0 km : Nat) (Q : Option Value → Heap → Prop) (RR : State → Outcome → Prop) (T : State) (h : Heap) (cells slots : Nat) : Prop :=
  OwnCx p l e R s m meth c Z own bytes maxL ret nm n0 km Q RR ∧ T.heap = h ∧ km ≤ h.size ∧ ∃ locs, Stand p l e R s m args below meth c T locs cells slots ∧ Fr n0 locs
/-- a body's contract: called with these arguments at the heap h it returns v and leaves a heap, with Q -/
def OwnMet (l : Launch) (Z : State) (y : MethodName) (bytes : ByteArray) (maxL : Nat) (ret : Option FieldType) (rm : Room) (as' : Array Value) (h : Heap) (n0 : Nat) (Q : Option Value → Heap → Prop) : Prop :=
  ∀ ws : List Jvm.Cond, MetFree l y (head1 (Jvm.Cond.code y bytes maxL ret :: ws) rm) (fun a U => a = as' ∧ Z.Warmed39 U.vm ∧ U.heap = h) (fun _ _ _ _ _ => True) (fun _ U o U' => ∃ v L, o = .returned v ∧ ((Q v U'.heap ∧ h.size ≤ U'.heap.size) ∧ Fr n0 L) ∧ FrameEnd U o U' L rm.cells rm.slots)
theorem own_body {y : MethodName} {rm : Room} {as' : Array Value} (hpl : plainFor y = true)
    (body : ∀ (p : Program) (e : Env) (s : State) (m : MethodId) (below : List Frame) (meth : Method) (c : Code) (s₁ : State) (RR : State → Outcome → Prop), OwnSt p l e rm s m as' below meth c Z y.cls bytes maxL ret y.name n0 0 Q RR s₁ h 0 0 → OwnGo p e below (s₁.setTop (entryFrame m as' maxL)) RR) :
    OwnMet l Z y bytes maxL ret rm as' h n0 Q := by
  intro ws
  refine MetFree.of_bodySF hpl hisR ?_
  intro p e s m args below meth c s₁ Bd hml0 hP hK
  obtain ⟨rfl, hZ, hh⟩ := hP
  refine body p e s m below meth c s₁ _ ⟨⟨Bd.exec, Bd.bytes, hml0, hZ, findClass_of_methodNamed Bd.named, (name_of_methodNamed Bd.named Bd.method).1, Bd.returns, Bd.notSynchronized, ?_⟩, by rw [← hh, Bd.state]; rfl, Nat.zero_le _, [], Stand.of_body Bd, Fr.nil n0⟩
  intro U v L hQ _ hN hW hs
  exact ⟨v, L, rfl, ⟨⟨hQ, by rw [← hh]; exact hs.2.1⟩, hN⟩, ⟨_, rfl⟩, hW, hs⟩
theorem own_enter {g g' : JFrame} (q : g = g') (k : OwnGo p e below (T.setTop g') RR) : OwnGo p e below (T.setTop g) RR := q ▸ k
theorem own_ret {v : Option Value} {g : State} (X : OwnSt p l e R s m args below meth c Z own bytes maxL ret nm n0 km Q RR T h cells slots) (hv : ret = none → v = none) (hQ : Q v h) (hc : cells ≤ R.cells) (hl : slots ≤ R.slots)
    (k : ∀ locs, Stand p l e R s m args below meth c T locs cells slots → ∀ fs, (∀ (f : JFrame) (acts : List Action), f.method = m → f.locked = none → f.entered = [] → (doReturn e (T.setTop f) acts v).1 = T.setFrames fs) → Steps p.tables e below g (T.setFrames fs)) : OwnGo p e below g RR := by
  obtain ⟨⟨hx, hby, hml, hZ, hown, hnm, hret, hlk, hR⟩, hh, hkm, locs, X0, N⟩ := X
  obtain ⟨fs, hr, hrun, hended, hW, hsame⟩ := X0.leave (v := v) (fun q => hv (hret ▸ q)) hlk
  exact ⟨_, _, k _ X0 fs hr, hrun, hended, hR _ _ _ (by show Q v T.heap; rw [hh]; exact hQ) (by show km ≤ T.heap.size; rw [hh]; exact hkm) N hW (hsame.mono hc hl)⟩
theorem own_retV (X : OwnSt p l e R s m args below meth c Z own bytes maxL none nm n0 km Q RR T h cells slots) (hd : decode bytes pc = .ok (.return_, 1)) (hQ : Q none h) (hc : cells ≤ R.cells) (hl : slots ≤ R.slots) : OwnGo p e below (T.setTop (mkF m pc Ls [])) RR := by
  refine own_ret X (fun _ => rfl) hQ hc hl fun locs X0 fs hr => ?_
  obtain ⟨⟨hx, hby, hml, hZ, hown, hnm, hret, hlk, hR⟩, hh, -⟩ := X
  exact X0.returnOut hx hret (hb hby hd) hr
theorem own_retI {z : Int32} {rest : List Value} (X : OwnSt p l e R s m args below meth c Z own bytes maxL (some .int) nm n0 km Q RR T h cells slots) (hd : decode bytes pc = .ok (.ireturn, 1)) (hQ : Q (some (.int z)) h) (hc : cells ≤ R.cells) (hl : slots ≤ R.slots) : OwnGo p e below (T.setTop (mkF m pc Ls (.int z :: rest))) RR := by
  refine own_ret X (fun q => nomatch q) hQ hc hl fun locs X0 fs hr => ?_
  obtain ⟨⟨hx, hby, hml, hZ, hown, hnm, hret, hlk, hR⟩, hh, -⟩ := X
  exact retOut X0 hx hret rfl (Or.inl ⟨rfl, Or.inl rfl, z, rfl⟩) (hb hby hd) hr
theorem own_retJ {z : Int64} {rest : List Value} (X : OwnSt p l e R s m args below meth c Z own bytes maxL (some .long) nm n0 km Q RR T h cells slots) (hd : decode bytes pc = .ok (.lreturn, 1)) (hQ : Q (some (.long z)) h) (hc : cells ≤ R.cells) (hl : slots ≤ R.slots) : OwnGo p e below (T.setTop (mkF m pc Ls (.long z :: rest))) RR := by
  refine own_ret X (fun q => nomatch q) hQ hc hl fun locs X0 fs hr => ?_
  obtain ⟨⟨hx, hby, hml, hZ, hown, hnm, hret, hlk, hR⟩, hh, -⟩ := X
  exact retOut X0 hx hret rfl (Or.inr (Or.inl ⟨rfl, rfl, z, rfl⟩)) (hb hby hd) hr
theorem own_retA {v : Value} {t : FieldType} {rest : List Value} (X : OwnSt p l e R s m args below meth c Z own bytes maxL (some t) nm n0 km Q RR T h cells slots) (ht : t.isReference = true) (hv : v.isRef = true) (hn : narrow t v = v) (hd : decode bytes pc = .ok (.areturn, 1)) (hQ : Q (some v) h) (hc : cells ≤ R.cells) (hl : slots ≤ R.slots) : OwnGo p e below (T.setTop (mkF m pc Ls (v :: rest))) RR := by
  refine own_ret X (fun q => nomatch q) hQ hc hl fun locs X0 fs hr => ?_
  obtain ⟨⟨hx, hby, hml, hZ, hown, hnm, hret, hlk, hR⟩, hh, -⟩ := X
  exact retOut X0 hx hret hn (Or.inr (Or.inr (Or.inr (Or.inr ⟨rfl, ht, hv⟩)))) (hb hby hd) hr
theorem own_retZ {z : Int32} {rest : List Value} (X : OwnSt p l e R s m args below meth c Z own bytes maxL (some .boolean) nm n0 km Q RR T h cells slots) (hd : decode bytes pc = .ok (.ireturn, 1)) (hz : z &&& 1 = z) (hQ : Q (some (.int z)) h) (hc : cells ≤ R.cells) (hl : slots ≤ R.slots) : OwnGo p e below (T.setTop (mkF m pc Ls (.int z :: rest))) RR := by
  refine own_ret X (fun q => nomatch q) hQ hc hl fun locs X0 fs hr => ?_
  obtain ⟨⟨hx, hby, hml, hZ, hown, hnm, hret, hlk, hR⟩, hh, -⟩ := X
  exact retOut X0 hx hret (by show Value.int (z &&& 1) = _; rw [hz]) (Or.inl ⟨rfl, Or.inr (Or.inl rfl), z, rfl⟩) (hb hby hd) hr
theorem OwnSt.here (X : OwnSt p l e R s m args below meth c Z own bytes maxL ret nm n0 km Q RR T h cells slots) : At T m c below := X.2.2.2.elim fun _ q => q.1.here
theorem OwnSt.hx (X : OwnSt p l e R s m args below meth c Z own bytes maxL ret nm n0 km Q RR T h cells slots) : p.tables.exec = Jvm.exec := X.1.1
theorem OwnSt.by' (X : OwnSt p l e R s m args below meth c Z own bytes maxL ret nm n0 km Q RR T h cells slots) : c.code = bytes := X.1.2.1
theorem OwnSt.hZ (X : OwnSt p l e R s m args below meth c Z own bytes maxL ret nm n0 km Q RR T h cells slots) : Z.Warmed39 s.vm := X.1.2.2.2.1
theorem own_aloadN {k : Fin 4} {v : Value} (X : OwnSt p l e R s m args below meth c Z own bytes maxL ret nm n0 km Q RR T h cells slots) (hd : decode bytes pc = .ok (.aload_n k, 1)) (hp : pc + 1 = pc') (hl : Ls[k.val]? = some (.val v)) (hv : v.isRef = true) (k : OwnGo p e below (T.setTop (mkF m pc' Ls (v :: S))) RR) : OwnGo p e below (T.setTop (mkF m pc Ls (S))) RR := by
  subst hp
  exact own_step k fun t k => XS.aloadN X.here X.hx rfl (hb X.by' hd) hl hv k
theorem own_aload {k : Nat} {v : Value} (X : OwnSt p l e R s m args below meth c Z own bytes maxL ret nm n0 km Q RR T h cells slots) (hd : decode bytes pc = .ok (.aload k, 2)) (hp : pc + 2 = pc') (hl : Ls[k]? = some (.val v)) (hv : v.isRef = true) (k : OwnGo p e below (T.setTop (mkF m pc' Ls (v :: S))) RR) : OwnGo p e below (T.setTop (mkF m pc Ls (S))) RR := by
  subst hp
  exact own_step k fun t k => XS.aload X.here X.hx rfl (hb X.by' hd) hl hv k
theorem own_iloadN {k : Fin 4} {v : Int32} (X : OwnSt p l e R s m args below meth c Z own bytes maxL ret nm n0 km Q RR T h cells slots) (hd : decode bytes pc = .ok (.iload_n k, 1)) (hp : pc + 1 = pc') (hl : Ls[k.val]? = some (.val (.int v))) (k : OwnGo p e below (T.setTop (mkF m pc' Ls (.int v :: S))) RR) : OwnGo p e below (T.setTop (mkF m pc Ls (S))) RR := by
  subst hp
  exact own_step k fun t k => XS.iloadN X.here X.hx rfl (hb X.by' hd) hl k
theorem own_iload {k : Nat} {v : Int32} (X : OwnSt p l e R s m args below meth c Z own bytes maxL ret nm n0 km Q RR T h cells slots) (hd : decode bytes pc = .ok (.iload k, 2)) (hp : pc + 2 = pc') (hl : Ls[k]? = some (.val (.int v))) (k : OwnGo p e below (T.setTop (mkF m pc' Ls (.int v :: S))) RR) : OwnGo p e below (T.setTop (mkF m pc Ls (S))) RR := by
  subst hp
  exact own_step k fun t k => XS.iload X.here X.hx rfl (hb X.by' hd) hl k
theorem own_lloadN {k : Fin 4} {v : Int64} (X : OwnSt p l e R s m args below meth c Z own bytes maxL ret nm n0 km Q RR T h cells slots) (hd : decode bytes pc = .ok (.lload_n k, 1)) (hp : pc + 1 = pc') (hl : Ls[k.val]? = some (.val (.long v))) (k : OwnGo p e below (T.setTop (mkF m pc' Ls (.long v :: S))) RR) : OwnGo p e below (T.setTop (mkF m pc Ls (S))) RR := by
  subst hp
  exact own_step k fun t k => XS.lloadN X.here X.hx rfl (hb X.by' hd) hl k
theorem own_lload {k : Nat} {v : Int64} (X : OwnSt p l e R s m args below meth c Z own bytes maxL ret nm n0 km Q RR T h cells slots) (hd : decode bytes pc = .ok (.lload k, 2)) (hp : pc + 2 = pc') (hl : Ls[k]? = some (.val (.long v))) (k : OwnGo p e below (T.setTop (mkF m pc' Ls (.long v :: S))) RR) : OwnGo p e below (T.setTop (mkF m pc Ls (S))) RR := by
  subst hp
  exact own_step k fun t k => XS.lload X.here X.hx rfl (hb X.by' hd) hl k
theorem own_iconst {i : Int} {v : Int32} (X : OwnSt p l e R s m args below meth c Z own bytes maxL ret nm n0 km Q RR T h cells slots) (hd : decode bytes pc = .ok (.iconst i, 1)) (hp : pc + 1 = pc') (hv : Int32.ofInt i = v) (k : OwnGo p e below (T.setTop (mkF m pc' Ls (.int v :: S))) RR) : OwnGo p e below (T.setTop (mkF m pc Ls (S))) RR := by
  subst hp
  subst hv
  exact own_step k fun t k => XS.iconst X.here X.hx rfl (hb X.by' hd) k
theorem own_bipush {i : Int} {v : Int32} (X : OwnSt p l e R s m args below meth c Z own bytes maxL ret nm n0 km Q RR T h cells slots) (hd : decode bytes pc = .ok (.bipush i, 2)) (hp : pc + 2 = pc') (hv : (Int8.ofInt i).toInt32 = v) (k : OwnGo p e below (T.setTop (mkF m pc' Ls (.int v :: S))) RR) : OwnGo p e below (T.setTop (mkF m pc Ls (S))) RR := by
  subst hp
  subst hv
  exact own_step k fun t k => XS.bipush X.here X.hx rfl (hb X.by' hd) k
theorem own_sipush {i : Int} {v : Int32} (X : OwnSt p l e R s m args below meth c Z own bytes maxL ret nm n0 km Q RR T h cells slots) (hd : decode bytes pc = .ok (.sipush i, 3)) (hp : pc + 3 = pc') (hv : (Int16.ofInt i).toInt32 = v) (k : OwnGo p e below (T.setTop (mkF m pc' Ls (.int v :: S))) RR) : OwnGo p e below (T.setTop (mkF m pc Ls (S))) RR := by
  subst hp
  subst hv
  exact own_step k fun t k => XS.sipush X.here X.hx rfl (hb X.by' hd) k
theorem own_lconst {i : Fin 2} {v : Int64} (X : OwnSt p l e R s m args below meth c Z own bytes maxL ret nm n0 km Q RR T h cells slots) (hd : decode bytes pc = .ok (.lconst i, 1)) (hp : pc + 1 = pc') (hv : Int64.ofNat i = v) (k : OwnGo p e below (T.setTop (mkF m pc' Ls (.long v :: S))) RR) : OwnGo p e below (T.setTop (mkF m pc Ls (S))) RR := by
  subst hp
  subst hv
  exact own_step k fun t k => XS.lconst X.here X.hx rfl (hb X.by' hd) k
theorem own_aconst_null  (X : OwnSt p l e R s m args below meth c Z own bytes maxL ret nm n0 km Q RR T h cells slots) (hd : decode bytes pc = .ok (.aconst_null, 1)) (hp : pc + 1 = pc')  (k : OwnGo p e below (T.setTop (mkF m pc' Ls (.null :: S))) RR) : OwnGo p e below (T.setTop (mkF m pc Ls (S))) RR := by
  subst hp
  exact own_step k fun t k => XS.aconstNull X.here X.hx rfl (hb X.by' hd) k
theorem own_iadd {x y : Int32} (X : OwnSt p l e R s m args below meth c Z own bytes maxL ret nm n0 km Q RR T h cells slots) (hd : decode bytes pc = .ok (.iadd, 1)) (hp : pc + 1 = pc')  (k : OwnGo p e below (T.setTop (mkF m pc' Ls (.int (x + y) :: S))) RR) : OwnGo p e below (T.setTop (mkF m pc Ls (.int y :: .int x :: S))) RR := by
  subst hp
  exact own_step k fun t k => XS.iadd X.here X.hx rfl (hb X.by' hd) rfl k
theorem own_isub {x y : Int32} (X : OwnSt p l e R s m args below meth c Z own bytes maxL ret nm n0 km Q RR T h cells slots) (hd : decode bytes pc = .ok (.isub, 1)) (hp : pc + 1 = pc')  (k : OwnGo p e below (T.setTop (mkF m pc' Ls (.int (x - y) :: S))) RR) : OwnGo p e below (T.setTop (mkF m pc Ls (.int y :: .int x :: S))) RR := by
  subst hp
  exact own_step k fun t k => XS.isub X.here X.hx rfl (hb X.by' hd) rfl k
theorem own_imul {x y : Int32} (X : OwnSt p l e R s m args below meth c Z own bytes maxL ret nm n0 km Q RR T h cells slots) (hd : decode bytes pc = .ok (.imul, 1)) (hp : pc + 1 = pc')  (k : OwnGo p e below (T.setTop (mkF m pc' Ls (.int (x * y) :: S))) RR) : OwnGo p e below (T.setTop (mkF m pc Ls (.int y :: .int x :: S))) RR := by
  subst hp
  exact own_step k fun t k => XS.imul X.here X.hx rfl (hb X.by' hd) rfl k
theorem own_iand {x y : Int32} (X : OwnSt p l e R s m args below meth c Z own bytes maxL ret nm n0 km Q RR T h cells slots) (hd : decode bytes pc = .ok (.iand, 1)) (hp : pc + 1 = pc')  (k : OwnGo p e below (T.setTop (mkF m pc' Ls (.int (x &&& y) :: S))) RR) : OwnGo p e below (T.setTop (mkF m pc Ls (.int y :: .int x :: S))) RR := by
  subst hp
  exact own_step k fun t k => XS.iand X.here X.hx rfl (hb X.by' hd) rfl k
theorem own_ior {x y : Int32} (X : OwnSt p l e R s m args below meth c Z own bytes maxL ret nm n0 km Q RR T h cells slots) (hd : decode bytes pc = .ok (.ior, 1)) (hp : pc + 1 = pc')  (k : OwnGo p e below (T.setTop (mkF m pc' Ls (.int (x ||| y) :: S))) RR) : OwnGo p e below (T.setTop (mkF m pc Ls (.int y :: .int x :: S))) RR := by
  subst hp
  exact own_step k fun t k => XS.ior X.here X.hx rfl (hb X.by' hd) rfl k
theorem own_ixor {x y : Int32} (X : OwnSt p l e R s m args below meth c Z own bytes maxL ret nm n0 km Q RR T h cells slots) (hd : decode bytes pc = .ok (.ixor, 1)) (hp : pc + 1 = pc')  (k : OwnGo p e below (T.setTop (mkF m pc' Ls (.int (x ^^^ y) :: S))) RR) : OwnGo p e below (T.setTop (mkF m pc Ls (.int y :: .int x :: S))) RR := by
  subst hp
  exact own_step k fun t k => XS.ixor X.here X.hx rfl (hb X.by' hd) rfl k
theorem own_ishl {x y : Int32} (X : OwnSt p l e R s m args below meth c Z own bytes maxL ret nm n0 km Q RR T h cells slots) (hd : decode bytes pc = .ok (.ishl, 1)) (hp : pc + 1 = pc')  (k : OwnGo p e below (T.setTop (mkF m pc' Ls (.int (x <<< (y &&& 31)) :: S))) RR) : OwnGo p e below (T.setTop (mkF m pc Ls (.int y :: .int x :: S))) RR := by
  subst hp
  exact own_step k fun t k => XS.ishl X.here X.hx rfl (hb X.by' hd) rfl k
theorem own_ishr {x y : Int32} (X : OwnSt p l e R s m args below meth c Z own bytes maxL ret nm n0 km Q RR T h cells slots) (hd : decode bytes pc = .ok (.ishr, 1)) (hp : pc + 1 = pc')  (k : OwnGo p e below (T.setTop (mkF m pc' Ls (.int (x >>> (y &&& 31)) :: S))) RR) : OwnGo p e below (T.setTop (mkF m pc Ls (.int y :: .int x :: S))) RR := by
  subst hp
  exact own_step k fun t k => XS.ishr X.here X.hx rfl (hb X.by' hd) rfl k
theorem own_iushr {x y : Int32} (X : OwnSt p l e R s m args below meth c Z own bytes maxL ret nm n0 km Q RR T h cells slots) (hd : decode bytes pc = .ok (.iushr, 1)) (hp : pc + 1 = pc')  (k : OwnGo p e below (T.setTop (mkF m pc' Ls (.int ((x.toUInt32 >>> (y &&& 31).toUInt32).toInt32) :: S))) RR) : OwnGo p e below (T.setTop (mkF m pc Ls (.int y :: .int x :: S))) RR := by
  subst hp
  exact own_step k fun t k => XS.iushr X.here X.hx rfl (hb X.by' hd) rfl k
theorem own_idiv {x y : Int32} (X : OwnSt p l e R s m args below meth c Z own bytes maxL ret nm n0 km Q RR T h cells slots) (hd : decode bytes pc = .ok (.idiv, 1)) (hp : pc + 1 = pc') (hy : y ≠ 0) (k : OwnGo p e below (T.setTop (mkF m pc' Ls (.int (x / y) :: S))) RR) : OwnGo p e below (T.setTop (mkF m pc Ls (.int y :: .int x :: S))) RR := by
  subst hp
  exact own_step k fun t k => XS.idiv X.here X.hx rfl (hb X.by' hd) rfl hy k
theorem own_irem {x y : Int32} (X : OwnSt p l e R s m args below meth c Z own bytes maxL ret nm n0 km Q RR T h cells slots) (hd : decode bytes pc = .ok (.irem, 1)) (hp : pc + 1 = pc') (hy : y ≠ 0) (k : OwnGo p e below (T.setTop (mkF m pc' Ls (.int (x % y) :: S))) RR) : OwnGo p e below (T.setTop (mkF m pc Ls (.int y :: .int x :: S))) RR := by
  subst hp
  exact own_step k fun t k => XS.irem X.here X.hx rfl (hb X.by' hd) rfl hy (by rw [irem_eq_mod]; exact k)
theorem own_ladd {x y : Int64} (X : OwnSt p l e R s m args below meth c Z own bytes maxL ret nm n0 km Q RR T h cells slots) (hd : decode bytes pc = .ok (.ladd, 1)) (hp : pc + 1 = pc')  (k : OwnGo p e below (T.setTop (mkF m pc' Ls (.long (x + y) :: S))) RR) : OwnGo p e below (T.setTop (mkF m pc Ls (.long y :: .long x :: S))) RR := by
  subst hp
  exact own_step k fun t k => XS.ladd X.here X.hx rfl (hb X.by' hd) rfl k
theorem own_lsub {x y : Int64} (X : OwnSt p l e R s m args below meth c Z own bytes maxL ret nm n0 km Q RR T h cells slots) (hd : decode bytes pc = .ok (.lsub, 1)) (hp : pc + 1 = pc')  (k : OwnGo p e below (T.setTop (mkF m pc' Ls (.long (x - y) :: S))) RR) : OwnGo p e below (T.setTop (mkF m pc Ls (.long y :: .long x :: S))) RR := by
  subst hp
  exact own_step k fun t k => XS.lsub X.here X.hx rfl (hb X.by' hd) rfl k
theorem own_lmul {x y : Int64} (X : OwnSt p l e R s m args below meth c Z own bytes maxL ret nm n0 km Q RR T h cells slots) (hd : decode bytes pc = .ok (.lmul, 1)) (hp : pc + 1 = pc')  (k : OwnGo p e below (T.setTop (mkF m pc' Ls (.long (x * y) :: S))) RR) : OwnGo p e below (T.setTop (mkF m pc Ls (.long y :: .long x :: S))) RR := by
  subst hp
  exact own_step k fun t k => XS.lmul X.here X.hx rfl (hb X.by' hd) rfl k
theorem own_land {x y : Int64} (X : OwnSt p l e R s m args below meth c Z own bytes maxL ret nm n0 km Q RR T h cells slots) (hd : decode bytes pc = .ok (.land, 1)) (hp : pc + 1 = pc')  (k : OwnGo p e below (T.setTop (mkF m pc' Ls (.long (x &&& y) :: S))) RR) : OwnGo p e below (T.setTop (mkF m pc Ls (.long y :: .long x :: S))) RR := by
  subst hp
  exact own_step k fun t k => XS.land X.here X.hx rfl (hb X.by' hd) rfl k
theorem own_lor {x y : Int64} (X : OwnSt p l e R s m args below meth c Z own bytes maxL ret nm n0 km Q RR T h cells slots) (hd : decode bytes pc = .ok (.lor, 1)) (hp : pc + 1 = pc')  (k : OwnGo p e below (T.setTop (mkF m pc' Ls (.long (x ||| y) :: S))) RR) : OwnGo p e below (T.setTop (mkF m pc Ls (.long y :: .long x :: S))) RR := by
  subst hp
  exact own_step k fun t k => XS.lor X.here X.hx rfl (hb X.by' hd) rfl k
theorem own_lxor {x y : Int64} (X : OwnSt p l e R s m args below meth c Z own bytes maxL ret nm n0 km Q RR T h cells slots) (hd : decode bytes pc = .ok (.lxor, 1)) (hp : pc + 1 = pc')  (k : OwnGo p e below (T.setTop (mkF m pc' Ls (.long (x ^^^ y) :: S))) RR) : OwnGo p e below (T.setTop (mkF m pc Ls (.long y :: .long x :: S))) RR := by
  subst hp
  exact own_step k fun t k => XS.lxor X.here X.hx rfl (hb X.by' hd) rfl k
theorem own_ldiv {x y : Int64} (X : OwnSt p l e R s m args below meth c Z own bytes maxL ret nm n0 km Q RR T h cells slots) (hd : decode bytes pc = .ok (.ldiv, 1)) (hp : pc + 1 = pc') (hy : y ≠ 0) (k : OwnGo p e below (T.setTop (mkF m pc' Ls (.long (x / y) :: S))) RR) : OwnGo p e below (T.setTop (mkF m pc Ls (.long y :: .long x :: S))) RR := by
  subst hp
  exact own_step k fun t k => XS.ldiv X.here X.hx rfl (hb X.by' hd) rfl hy k
theorem own_lrem {x y : Int64} (X : OwnSt p l e R s m args below meth c Z own bytes maxL ret nm n0 km Q RR T h cells slots) (hd : decode bytes pc = .ok (.lrem, 1)) (hp : pc + 1 = pc') (hy : y ≠ 0) (k : OwnGo p e below (T.setTop (mkF m pc' Ls (.long (x - (x / y) * y) :: S))) RR) : OwnGo p e below (T.setTop (mkF m pc Ls (.long y :: .long x :: S))) RR := by
  subst hp
  exact own_step k fun t k => XS.lrem X.here X.hx rfl (hb X.by' hd) rfl hy k
theorem own_lshl {x : Int64} {y : Int32} (X : OwnSt p l e R s m args below meth c Z own bytes maxL ret nm n0 km Q RR T h cells slots) (hd : decode bytes pc = .ok (.lshl, 1)) (hp : pc + 1 = pc')  (k : OwnGo p e below (T.setTop (mkF m pc' Ls (.long (x <<< (y &&& 0x3f).toInt64) :: S))) RR) : OwnGo p e below (T.setTop (mkF m pc Ls (.int y :: .long x :: S))) RR := by
  subst hp
  exact own_step k fun t k => XS.lshl X.here X.hx rfl (hb X.by' hd) rfl k
theorem own_lshr {x : Int64} {y : Int32} (X : OwnSt p l e R s m args below meth c Z own bytes maxL ret nm n0 km Q RR T h cells slots) (hd : decode bytes pc = .ok (.lshr, 1)) (hp : pc + 1 = pc')  (k : OwnGo p e below (T.setTop (mkF m pc' Ls (.long (x >>> (y &&& 0x3f).toInt64) :: S))) RR) : OwnGo p e below (T.setTop (mkF m pc Ls (.int y :: .long x :: S))) RR := by
  subst hp
  exact own_step k fun t k => XS.lshr X.here X.hx rfl (hb X.by' hd) rfl k
theorem own_lushr {x : Int64} {y : Int32} (X : OwnSt p l e R s m args below meth c Z own bytes maxL ret nm n0 km Q RR T h cells slots) (hd : decode bytes pc = .ok (.lushr, 1)) (hp : pc + 1 = pc')  (k : OwnGo p e below (T.setTop (mkF m pc' Ls (.long ((x.toUInt64 >>> (y &&& 0x3f).toInt64.toUInt64).toInt64) :: S))) RR) : OwnGo p e below (T.setTop (mkF m pc Ls (.int y :: .long x :: S))) RR := by
  subst hp
  exact own_step k fun t k => XS.lushr X.here X.hx rfl (hb X.by' hd) rfl k
theorem own_ineg {x : Int32} (X : OwnSt p l e R s m args below meth c Z own bytes maxL ret nm n0 km Q RR T h cells slots) (hd : decode bytes pc = .ok (.ineg, 1)) (hp : pc + 1 = pc')  (k : OwnGo p e below (T.setTop (mkF m pc' Ls (.int (-x) :: S))) RR) : OwnGo p e below (T.setTop (mkF m pc Ls (.int x :: S))) RR := by
  subst hp
  exact own_step k fun t k => XS.ineg X.here X.hx rfl (hb X.by' hd) rfl k
theorem own_lneg {x : Int64} (X : OwnSt p l e R s m args below meth c Z own bytes maxL ret nm n0 km Q RR T h cells slots) (hd : decode bytes pc = .ok (.lneg, 1)) (hp : pc + 1 = pc')  (k : OwnGo p e below (T.setTop (mkF m pc' Ls (.long (-x) :: S))) RR) : OwnGo p e below (T.setTop (mkF m pc Ls (.long x :: S))) RR := by
  subst hp
  exact own_step k fun t k => XS.lneg X.here X.hx rfl (hb X.by' hd) rfl k
theorem own_i2l {x : Int32} (X : OwnSt p l e R s m args below meth c Z own bytes maxL ret nm n0 km Q RR T h cells slots) (hd : decode bytes pc = .ok (.i2l, 1)) (hp : pc + 1 = pc')  (k : OwnGo p e below (T.setTop (mkF m pc' Ls (.long (x.toInt64) :: S))) RR) : OwnGo p e below (T.setTop (mkF m pc Ls (.int x :: S))) RR := by
  subst hp
  exact own_step k fun t k => XS.i2l X.here X.hx rfl (hb X.by' hd) rfl k
theorem own_l2i {x : Int64} (X : OwnSt p l e R s m args below meth c Z own bytes maxL ret nm n0 km Q RR T h cells slots) (hd : decode bytes pc = .ok (.l2i, 1)) (hp : pc + 1 = pc')  (k : OwnGo p e below (T.setTop (mkF m pc' Ls (.int (x.toInt32) :: S))) RR) : OwnGo p e below (T.setTop (mkF m pc Ls (.long x :: S))) RR := by
  subst hp
  exact own_step k fun t k => XS.l2i X.here X.hx rfl (hb X.by' hd) rfl k
theorem own_i2b {x : Int32} (X : OwnSt p l e R s m args below meth c Z own bytes maxL ret nm n0 km Q RR T h cells slots) (hd : decode bytes pc = .ok (.i2b, 1)) (hp : pc + 1 = pc')  (k : OwnGo p e below (T.setTop (mkF m pc' Ls (.int (x.toInt8.toInt32) :: S))) RR) : OwnGo p e below (T.setTop (mkF m pc Ls (.int x :: S))) RR := by
  subst hp
  exact own_step k fun t k => XS.i2b X.here X.hx rfl (hb X.by' hd) rfl k
theorem own_i2s {x : Int32} (X : OwnSt p l e R s m args below meth c Z own bytes maxL ret nm n0 km Q RR T h cells slots) (hd : decode bytes pc = .ok (.i2s, 1)) (hp : pc + 1 = pc')  (k : OwnGo p e below (T.setTop (mkF m pc' Ls (.int (x.toInt16.toInt32) :: S))) RR) : OwnGo p e below (T.setTop (mkF m pc Ls (.int x :: S))) RR := by
  subst hp
  exact own_step k fun t k => XS.i2s X.here X.hx rfl (hb X.by' hd) rfl k
theorem own_i2c {x : Int32} (X : OwnSt p l e R s m args below meth c Z own bytes maxL ret nm n0 km Q RR T h cells slots) (hd : decode bytes pc = .ok (.i2c, 1)) (hp : pc + 1 = pc')  (k : OwnGo p e below (T.setTop (mkF m pc' Ls (.int (x.toUInt32.toUInt16.toUInt32.toInt32) :: S))) RR) : OwnGo p e below (T.setTop (mkF m pc Ls (.int x :: S))) RR := by
  subst hp
  exact own_step k fun t k => XS.i2c X.here X.hx rfl (hb X.by' hd) rfl k
theorem own_dup {x : Value} (X : OwnSt p l e R s m args below meth c Z own bytes maxL ret nm n0 km Q RR T h cells slots) (hd : decode bytes pc = .ok (.dup, 1)) (hp : pc + 1 = pc') (hc : x.category = 1) (k : OwnGo p e below (T.setTop (mkF m pc' Ls (x :: x :: S))) RR) : OwnGo p e below (T.setTop (mkF m pc Ls (x :: S))) RR := by
  subst hp
  exact own_step k fun t k => XS.dup X.here X.hx rfl (hb X.by' hd) rfl hc k
theorem own_pop {x : Value} (X : OwnSt p l e R s m args below meth c Z own bytes maxL ret nm n0 km Q RR T h cells slots) (hd : decode bytes pc = .ok (.pop, 1)) (hp : pc + 1 = pc') (hc : x.category = 1) (k : OwnGo p e below (T.setTop (mkF m pc' Ls (S))) RR) : OwnGo p e below (T.setTop (mkF m pc Ls (x :: S))) RR := by
  subst hp
  exact own_step k fun t k => XS.pop X.here X.hx rfl (hb X.by' hd) rfl hc k
theorem own_dup_x1 {x y : Value} (X : OwnSt p l e R s m args below meth c Z own bytes maxL ret nm n0 km Q RR T h cells slots) (hd : decode bytes pc = .ok (.dup_x1, 1)) (hp : pc + 1 = pc') (hc : x.category = 1) (hc' : y.category = 1) (k : OwnGo p e below (T.setTop (mkF m pc' Ls (x :: y :: x :: S))) RR) : OwnGo p e below (T.setTop (mkF m pc Ls (x :: y :: S))) RR := by
  subst hp
  exact own_step k fun t k => XS.dupX1 X.here X.hx rfl (hb X.by' hd) rfl hc hc' k
theorem own_istoreN {k : Fin 4} {x : Int32} {l' : Array Slot} (X : OwnSt p l e R s m args below meth c Z own bytes maxL ret nm n0 km Q RR T h cells slots) (hd : decode bytes pc = .ok (.istore_n k, 1)) (hp : pc + 1 = pc') (hl : storeLocals Ls k.val (.int x) = some l') (k : OwnGo p e below (T.setTop (mkF m pc' l' (S))) RR) : OwnGo p e below (T.setTop (mkF m pc Ls (.int x :: S))) RR := by
  subst hp
  exact own_step k fun t k => XS.istoreN X.here X.hx rfl (hb X.by' hd) rfl hl k
theorem own_istoreNV {k : Fin 4} {x : Int32} {l' : Int32 → Array Slot} (X : OwnSt p l e R s m args below meth c Z own bytes maxL ret nm n0 km Q RR T h cells slots) (hd : decode bytes pc = .ok (.istore_n k, 1)) (hp : pc + 1 = pc') (hl : ∀ v, storeLocals Ls k.val (.int v) = some (l' v)) (k : ∀ v, v = x → OwnGo p e below (T.setTop (mkF m pc' (l' v) (S))) RR) : OwnGo p e below (T.setTop (mkF m pc Ls (.int x :: S))) RR := by
  subst hp
  exact own_step (k _ rfl) fun t k => XS.istoreN X.here X.hx rfl (hb X.by' hd) rfl (hl _) k
theorem own_istore {k : Nat} {x : Int32} {l' : Array Slot} (X : OwnSt p l e R s m args below meth c Z own bytes maxL ret nm n0 km Q RR T h cells slots) (hd : decode bytes pc = .ok (.istore k, 2)) (hp : pc + 2 = pc') (hl : storeLocals Ls k (.int x) = some l') (k : OwnGo p e below (T.setTop (mkF m pc' l' (S))) RR) : OwnGo p e below (T.setTop (mkF m pc Ls (.int x :: S))) RR := by
  subst hp
  exact own_step k fun t k => XS.istore X.here X.hx rfl (hb X.by' hd) rfl hl k
theorem own_istoreV {k : Nat} {x : Int32} {l' : Int32 → Array Slot} (X : OwnSt p l e R s m args below meth c Z own bytes maxL ret nm n0 km Q RR T h cells slots) (hd : decode bytes pc = .ok (.istore k, 2)) (hp : pc + 2 = pc') (hl : ∀ v, storeLocals Ls k (.int v) = some (l' v)) (k : ∀ v, v = x → OwnGo p e below (T.setTop (mkF m pc' (l' v) (S))) RR) : OwnGo p e below (T.setTop (mkF m pc Ls (.int x :: S))) RR := by
  subst hp
  exact own_step (k _ rfl) fun t k => XS.istore X.here X.hx rfl (hb X.by' hd) rfl (hl _) k
theorem own_lstoreN {k : Fin 4} {x : Int64} {l' : Array Slot} (X : OwnSt p l e R s m args below meth c Z own bytes maxL ret nm n0 km Q RR T h cells slots) (hd : decode bytes pc = .ok (.lstore_n k, 1)) (hp : pc + 1 = pc') (hl : storeLocals Ls k.val (.long x) = some l') (k : OwnGo p e below (T.setTop (mkF m pc' l' (S))) RR) : OwnGo p e below (T.setTop (mkF m pc Ls (.long x :: S))) RR := by
  subst hp
  exact own_step k fun t k => XS.lstoreN X.here X.hx rfl (hb X.by' hd) rfl hl k
theorem own_lstoreNV {k : Fin 4} {x : Int64} {l' : Int64 → Array Slot} (X : OwnSt p l e R s m args below meth c Z own bytes maxL ret nm n0 km Q RR T h cells slots) (hd : decode bytes pc = .ok (.lstore_n k, 1)) (hp : pc + 1 = pc') (hl : ∀ v, storeLocals Ls k.val (.long v) = some (l' v)) (k : ∀ v, v = x → OwnGo p e below (T.setTop (mkF m pc' (l' v) (S))) RR) : OwnGo p e below (T.setTop (mkF m pc Ls (.long x :: S))) RR := by
  subst hp
  exact own_step (k _ rfl) fun t k => XS.lstoreN X.here X.hx rfl (hb X.by' hd) rfl (hl _) k
theorem own_lstore {k : Nat} {x : Int64} {l' : Array Slot} (X : OwnSt p l e R s m args below meth c Z own bytes maxL ret nm n0 km Q RR T h cells slots) (hd : decode bytes pc = .ok (.lstore k, 2)) (hp : pc + 2 = pc') (hl : storeLocals Ls k (.long x) = some l') (k : OwnGo p e below (T.setTop (mkF m pc' l' (S))) RR) : OwnGo p e below (T.setTop (mkF m pc Ls (.long x :: S))) RR := by
  subst hp
  exact own_step k fun t k => XS.lstore X.here X.hx rfl (hb X.by' hd) rfl hl k
theorem own_lstoreV {k : Nat} {x : Int64} {l' : Int64 → Array Slot} (X : OwnSt p l e R s m args below meth c Z own bytes maxL ret nm n0 km Q RR T h cells slots) (hd : decode bytes pc = .ok (.lstore k, 2)) (hp : pc + 2 = pc') (hl : ∀ v, storeLocals Ls k (.long v) = some (l' v)) (k : ∀ v, v = x → OwnGo p e below (T.setTop (mkF m pc' (l' v) (S))) RR) : OwnGo p e below (T.setTop (mkF m pc Ls (.long x :: S))) RR := by
  subst hp
  exact own_step (k _ rfl) fun t k => XS.lstore X.here X.hx rfl (hb X.by' hd) rfl (hl _) k
theorem own_astoreN {k : Fin 4} {x : Value} {l' : Array Slot} (X : OwnSt p l e R s m args below meth c Z own bytes maxL ret nm n0 km Q RR T h cells slots) (hd : decode bytes pc = .ok (.astore_n k, 1)) (hp : pc + 1 = pc') (hv : x.isRef = true) (hl : storeLocals Ls k.val x = some l') (k : OwnGo p e below (T.setTop (mkF m pc' l' (S))) RR) : OwnGo p e below (T.setTop (mkF m pc Ls (x :: S))) RR := by
  subst hp
  exact own_step k fun t k => XS.astoreN X.here X.hx rfl (hb X.by' hd) rfl hv hl k
theorem own_astore {k : Nat} {x : Value} {l' : Array Slot} (X : OwnSt p l e R s m args below meth c Z own bytes maxL ret nm n0 km Q RR T h cells slots) (hd : decode bytes pc = .ok (.astore k, 2)) (hp : pc + 2 = pc') (hv : x.isRef = true) (hl : storeLocals Ls k x = some l') (k : OwnGo p e below (T.setTop (mkF m pc' l' (S))) RR) : OwnGo p e below (T.setTop (mkF m pc Ls (x :: S))) RR := by
  subst hp
  exact own_step k fun t k => XS.astore X.here X.hx rfl (hb X.by' hd) rfl hv hl k
theorem own_iinc {k : Nat} {d : Int} {x y : Int32} {l' : Array Slot} (X : OwnSt p l e R s m args below meth c Z own bytes maxL ret nm n0 km Q RR T h cells slots) (hd : decode bytes pc = .ok (.iinc k d, 3)) (hp : pc + 3 = pc') (hx' : Ls[k]? = some (.val (.int x))) (hy : x + Int32.ofInt d = y) (hl : storeLocals Ls k (.int y) = some l') (k : OwnGo p e below (T.setTop (mkF m pc' l' (S))) RR) : OwnGo p e below (T.setTop (mkF m pc Ls (S))) RR := by
  subst hp
  subst hy
  exact own_step k fun t k => XS.iinc X.here X.hx rfl (hb X.by' hd) hx' hl k
theorem own_ifnonnullN {o : Int} (X : OwnSt p l e R s m args below meth c Z own bytes maxL ret nm n0 km Q RR T h cells slots) (hd : decode bytes pc = .ok (.ifnonnull o, 3)) (hp : pc + 3 = pc')  (k : OwnGo p e below (T.setTop (mkF m pc' Ls (S))) RR) : OwnGo p e below (T.setTop (mkF m pc Ls (.null :: S))) RR := by
  subst hp
  exact own_step k fun t k => XS.ifnonnullNo X.here X.hx rfl (hb X.by' hd) rfl k
theorem own_ifnullN {o : Int} {b : Addr} (X : OwnSt p l e R s m args below meth c Z own bytes maxL ret nm n0 km Q RR T h cells slots) (hd : decode bytes pc = .ok (.ifnull o, 3)) (hp : pc + 3 = pc')  (k : OwnGo p e below (T.setTop (mkF m pc' Ls (S))) RR) : OwnGo p e below (T.setTop (mkF m pc Ls (.ref b :: S))) RR := by
  subst hp
  exact own_step k fun t k => XS.ifnullNo X.here X.hx rfl (hb X.by' hd) rfl k
theorem own_ifnonnullY {o : Int} {b : Addr} (X : OwnSt p l e R s m args below meth c Z own bytes maxL ret nm n0 km Q RR T h cells slots) (hd : decode bytes pc = .ok (.ifnonnull o, 3)) (hp : ((pc : Int) + o).toNat = pc') (ho : 0 ≤ (pc : Int) + o) (k : OwnGo p e below (T.setTop (mkF m pc' Ls S)) RR) : OwnGo p e below (T.setTop (mkF m pc Ls (.ref b :: S))) RR :=
  own_step k fun t k => XS.ifnonnullYes X.here X.hx rfl (pc0 := pc) rfl (hb X.by' hd) rfl ho hp k
theorem own_ifnullY {o : Int} (X : OwnSt p l e R s m args below meth c Z own bytes maxL ret nm n0 km Q RR T h cells slots) (hd : decode bytes pc = .ok (.ifnull o, 3)) (hp : ((pc : Int) + o).toNat = pc') (ho : 0 ≤ (pc : Int) + o) (k : OwnGo p e below (T.setTop (mkF m pc' Ls S)) RR) : OwnGo p e below (T.setTop (mkF m pc Ls (.null :: S))) RR :=
  own_step k fun t k => XS.ifnullYes X.here X.hx rfl (pc0 := pc) rfl (hb X.by' hd) rfl ho hp k
theorem own_ldcInt {i : Nat} {v : Int32} (X : OwnSt p l e R s m args below meth c Z own bytes maxL ret nm n0 km Q RR T h cells slots) (hd : decode bytes pc = .ok (.ldc i, 2)) (hp : pc + 2 = pc') (w : (Cond.constant own i v).before a0 Z = true) (k : OwnGo p e below (T.setTop (mkF m pc' Ls (.int v :: S))) RR) : OwnGo p e below (T.setTop (mkF m pc Ls S)) RR := by
  subst hp
  obtain ⟨C, hh, hkm, locs, X0, N⟩ := id X
  exact own_step k (X0.ldcInt X.hx C.2.2.2.2.1 (mvT X.hZ w) (g := mkF m pc Ls S) rfl (hb X.by' hd))
theorem own_ldc2Long {i : Nat} {v : Int64} (X : OwnSt p l e R s m args below meth c Z own bytes maxL ret nm n0 km Q RR T h cells slots) (hd : decode bytes pc = .ok (.ldc2_w i, 3)) (hp : pc + 3 = pc') (w : (Cond.constantLong own i v).before a0 Z = true) (k : OwnGo p e below (T.setTop (mkF m pc' Ls (.long v :: S))) RR) : OwnGo p e below (T.setTop (mkF m pc Ls S)) RR := by
  subst hp
  obtain ⟨C, hh, hkm, locs, X0, N⟩ := id X
  exact own_step k (X0.ldc2Long X.hx C.2.2.2.2.1 (mvT X.hZ w) (g := mkF m pc Ls S) rfl (hb X.by' hd))
/-! forks -/
theorem own_ifY {cd : ClassFile.Cond} {x : Int32} {o : Int} (X : OwnSt p l e R s m args below meth c Z own bytes maxL ret nm n0 km Q RR T h cells slots) (hd : decode bytes pc = .ok (.ifCond cd o, 3)) (hc : if_icmp.holds cd x 0 = true) (hp : ((pc : Int) + o).toNat = pc') (ho : 0 ≤ (pc : Int) + o) (k : OwnGo p e below (T.setTop (mkF m pc' Ls S)) RR) : OwnGo p e below (T.setTop (mkF m pc Ls (.int x :: S))) RR :=
  own_step k fun t k => XS.ifYes X.here X.hx rfl (pc0 := pc) rfl (hb X.by' hd) rfl ((if0 _ _).trans hc) ho hp k
theorem own_ifN {cd : ClassFile.Cond} {x : Int32} {o : Int} (X : OwnSt p l e R s m args below meth c Z own bytes maxL ret nm n0 km Q RR T h cells slots) (hd : decode bytes pc = .ok (.ifCond cd o, 3)) (hc : if_icmp.holds cd x 0 = false) (hp : pc + 3 = pc') (k : OwnGo p e below (T.setTop (mkF m pc' Ls S)) RR) : OwnGo p e below (T.setTop (mkF m pc Ls (.int x :: S))) RR := by
  subst hp
  exact own_step k fun t k => XS.ifNo X.here X.hx rfl (hb X.by' hd) rfl ((if0 _ _).trans hc) k
theorem own_icY {cd : ClassFile.Cond} {x y : Int32} {o : Int} (X : OwnSt p l e R s m args below meth c Z own bytes maxL ret nm n0 km Q RR T h cells slots) (hd : decode bytes pc = .ok (.if_icmp cd o, 3)) (hc : if_icmp.holds cd x y = true) (hp : ((pc : Int) + o).toNat = pc') (ho : 0 ≤ (pc : Int) + o) (k : OwnGo p e below (T.setTop (mkF m pc' Ls S)) RR) : OwnGo p e below (T.setTop (mkF m pc Ls (.int y :: .int x :: S))) RR :=
  own_step k fun t k => XS.icmpYes X.here X.hx rfl (pc0 := pc) rfl (hb X.by' hd) rfl hc ho hp k
theorem own_icN {cd : ClassFile.Cond} {x y : Int32} {o : Int} (X : OwnSt p l e R s m args below meth c Z own bytes maxL ret nm n0 km Q RR T h cells slots) (hd : decode bytes pc = .ok (.if_icmp cd o, 3)) (hc : if_icmp.holds cd x y = false) (hp : pc + 3 = pc') (k : OwnGo p e below (T.setTop (mkF m pc' Ls S)) RR) : OwnGo p e below (T.setTop (mkF m pc Ls (.int y :: .int x :: S))) RR := by
  subst hp
  exact own_step k fun t k => XS.icmpNo X.here X.hx rfl (hb X.by' hd) rfl hc k
def ownLc (cd : ClassFile.Cond) (x y : Int64) : Bool := match cd with
  | .eq => decide (x = y) | .ne => !decide (x = y) | .lt => decide (x < y) | .ge => !decide (x < y) | .gt => decide (y < x) | .le => !decide (y < x)
theorem own_lc (cd : ClassFile.Cond) (x y : Int64) : if_icmp.holds cd (lcmpW x y) 0 = ownLc cd x y := by
  rw [lcW]
  have h1 := lc_eq x y
  have h2 := lc_lt x y
  have h3 := lc_gt x y
  cases cd <;> simp only [ownLc]
  · by_cases q : x = y
    · rw [(teq (h1.mpr q)).1]; simp [q]
    · rw [(feq fun w => q (h1.mp w)).1]; simp [q]
  · by_cases q : x = y
    · rw [(teq (h1.mpr q)).2]; simp [q]
    · rw [(feq fun w => q (h1.mp w)).2]; simp [q]
  · by_cases q : x < y
    · rw [(tlt (h2.mpr q)).1]; simp [q]
    · rw [(flt fun w => q (h2.mp w)).1]; simp [q]
  · by_cases q : x < y
    · rw [(tlt (h2.mpr q)).2.1]; simp [q]
    · rw [(flt fun w => q (h2.mp w)).2.1]; simp [q]
  · by_cases q : y < x
    · rw [(tlt (h3.mpr q)).2.2.1]; simp [q]
    · rw [(flt fun w => q (h3.mp w)).2.2.1]; simp [q]
  · by_cases q : y < x
    · rw [(tlt (h3.mpr q)).2.2.2]; simp [q]
    · rw [(flt fun w => q (h3.mp w)).2.2.2]; simp [q]
theorem own_ljY {cd : ClassFile.Cond} {x y : Int64} {o : Int} (X : OwnSt p l e R s m args below meth c Z own bytes maxL ret nm n0 km Q RR T h cells slots) (hd : decode bytes pc = .ok (.lcmp, 1)) (hd2 : decode bytes (pc + 1) = .ok (.ifCond cd o, 3)) (hc : ownLc cd x y = true) (hp : (((pc + 1 : Nat) : Int) + o).toNat = pc') (ho : 0 ≤ ((pc + 1 : Nat) : Int) + o) (k : OwnGo p e below (T.setTop (mkF m pc' Ls S)) RR) : OwnGo p e below (T.setTop (mkF m pc Ls (.long y :: .long x :: S))) RR :=
  own_step (own_ifY (pc := pc + 1) (x := lcmpW x y) X hd2 ((own_lc cd x y).trans hc) hp ho k) fun t k => XS.lcmp X.here X.hx rfl (hb X.by' hd) rfl k
theorem own_ljN {cd : ClassFile.Cond} {x y : Int64} {o : Int} (X : OwnSt p l e R s m args below meth c Z own bytes maxL ret nm n0 km Q RR T h cells slots) (hd : decode bytes pc = .ok (.lcmp, 1)) (hd2 : decode bytes (pc + 1) = .ok (.ifCond cd o, 3)) (hc : ownLc cd x y = false) (hp : pc + 4 = pc') (k : OwnGo p e below (T.setTop (mkF m pc' Ls S)) RR) : OwnGo p e below (T.setTop (mkF m pc Ls (.long y :: .long x :: S))) RR :=
  own_step (own_ifN (pc := pc + 1) (x := lcmpW x y) X hd2 ((own_lc cd x y).trans hc) hp k) fun t k => XS.lcmp X.here X.hx rfl (hb X.by' hd) rfl k
theorem own_teqA {a b : Addr} (h : a = b) : if_acmp.holds .eq (some a) (some b) = true ∧ if_acmp.holds .ne (some a) (some b) = false := by simp [if_acmp.holds, h]
theorem own_feqA {a b : Addr} (h : ¬ a = b) : if_acmp.holds .eq (some a) (some b) = false ∧ if_acmp.holds .ne (some a) (some b) = true := by simp [if_acmp.holds, h]
theorem own_acY {cd : ClassFile.ACond} {a b : Addr} {o : Int} (X : OwnSt p l e R s m args below meth c Z own bytes maxL ret nm n0 km Q RR T h cells slots) (hd : decode bytes pc = .ok (.if_acmp cd o, 3)) (hc : if_acmp.holds cd (some a) (some b) = true) (hp : ((pc : Int) + o).toNat = pc') (ho : 0 ≤ (pc : Int) + o) (k : OwnGo p e below (T.setTop (mkF m pc' Ls S)) RR) : OwnGo p e below (T.setTop (mkF m pc Ls (.ref b :: .ref a :: S))) RR :=
  own_step k fun t k => XS.acmpYes X.here X.hx rfl (pc0 := pc) rfl (hb X.by' hd) rfl hc ho hp k
theorem own_acN {cd : ClassFile.ACond} {a b : Addr} {o : Int} (X : OwnSt p l e R s m args below meth c Z own bytes maxL ret nm n0 km Q RR T h cells slots) (hd : decode bytes pc = .ok (.if_acmp cd o, 3)) (hc : if_acmp.holds cd (some a) (some b) = false) (hp : pc + 3 = pc') (k : OwnGo p e below (T.setTop (mkF m pc' Ls S)) RR) : OwnGo p e below (T.setTop (mkF m pc Ls (.ref b :: .ref a :: S))) RR := by
  subst hp
  exact own_step k fun t k => XS.acmpNo X.here X.hx rfl (hb X.by' hd) rfl hc k
theorem own_goto {o : Int} (X : OwnSt p l e R s m args below meth c Z own bytes maxL ret nm n0 km Q RR T h cells slots) (hd : decode bytes pc = .ok (.goto o, 3)) (hp : ((pc : Int) + o).toNat = pc') (ho : 0 ≤ (pc : Int) + o) (k : OwnGo p e below (T.setTop (mkF m pc' Ls S)) RR) : OwnGo p e below (T.setTop (mkF m pc Ls S)) RR :=
  own_step k fun t k => XS.goto X.here X.hx rfl (pc0 := pc) rfl (hb X.by' hd) ho hp k
theorem own_tltL {x y : Int64} (h : x < y) : ownLc .lt x y = true ∧ ownLc .ge x y = false ∧ ownLc .gt y x = true ∧ ownLc .le y x = false := by simp [ownLc, h]
theorem own_fltL {x y : Int64} (h : ¬ x < y) : ownLc .lt x y = false ∧ ownLc .ge x y = true ∧ ownLc .gt y x = false ∧ ownLc .le y x = true := by simp [ownLc, h]
theorem own_teqL {x y : Int64} (h : x = y) : ownLc .eq x y = true ∧ ownLc .ne x y = false := by simp [ownLc, h]
theorem own_feqL {x y : Int64} (h : ¬ x = y) : ownLc .eq x y = false ∧ ownLc .ne x y = true := by simp [ownLc, h]
/-- the same stand at another state with the same heap; with another heap -/
abbrev OwnAt (X : OwnSt p l e R s m args below meth c Z own bytes maxL ret nm n0 km Q RR T h cells slots) (T' : State) : Prop := OwnSt p l e R s m args below meth c Z own bytes maxL ret nm n0 km Q RR T' h cells slots
abbrev OwnAtH (X : OwnSt p l e R s m args below meth c Z own bytes maxL ret nm n0 km Q RR T h cells slots) (T' : State) (h' : Heap) : Prop := OwnSt p l e R s m args below meth c Z own bytes maxL ret nm n0 km Q RR T' h' cells slots
/-! heap steps -/
theorem own_init {index : Nat} {a : Addr} (X : OwnSt p l e R s m args below meth c Z own bytes maxL ret nm n0 km Q RR T h cells slots) (hd : decode bytes pc = .ok (.invokespecial index, 3)) (w1 : (Cond.methodLink own index Lib.objectInit).before a0 Z = true) (w2 : (Cond.instanceMethod Lib.objectInit).before a0 Z = true) (w3 : (Cond.code Lib.objectInit ⟨#[0xb1]⟩ 1 none).before a0 Z = true)
    (hp : pc + 3 = pc') (hsz : Ls.size = maxL) (hf : 1 ≤ R.frames) {W : Nat} (hW : 0 + (S.map fun v => v.category).sum ≤ W) (hlo : W + 12 ≤ R.locals)
    (k : ∀ T', OwnSt p l e R s m args below meth c Z own bytes maxL ret nm n0 km Q RR T' h cells slots → OwnGo p e below (T'.setTop (mkF m pc' Ls S)) RR) : OwnGo p e below (T.setTop (mkF m pc Ls (.ref a :: S))) RR := by
  subst hp
  obtain ⟨C, hh, hkm, locs, X0, N⟩ := X
  obtain ⟨hx, hby, hml, hZ, hown, hnm, hret, hlk, hR⟩ := id C
  obtain ⟨T', X', e', st⟩ := initO X0 hx hZ hown w1 w2 w3 hh (g := mkF m pc Ls (.ref a :: S)) rfl (hsz.trans hml.symm) rfl (hb hby hd) hf hW hlo
  exact own_step (k T' ⟨C, e', hkm, locs, X', N⟩) st
theorem own_new {index n : Nat} {K : String} (X : OwnSt p l e R s m args below meth c Z own bytes maxL ret nm n0 km Q RR T h cells slots) (hd : decode bytes pc = .ok (.new index, 3)) (w1 : (Cond.classLink own index K).before a0 Z = true) (w2 : (Cond.instantiable K n).before a0 Z = true) (w3 : (Cond.initialized K).before a0 Z = true)
    (hp : pc + 3 = pc') (hc : cells + 1 ≤ R.cells) (hl : slots + n ≤ R.slots)
    (k : ∀ T' h' b, b = h.size → OwnSt p l e R s m args below meth c Z own bytes maxL ret nm n0 km Q RR T' h' (cells + 1) (slots + n) → Ext h h' → Exa Z h' b K → (∀ {O nm d : String} {ty : FieldType}, Laid Z a0 K O nm d → parseFieldDescriptor d = some ty → Fld Z h' b O nm d (defaultValue ty)) → OwnGo p e below (T'.setTop (mkF m pc' Ls (.ref b :: S))) RR) : OwnGo p e below (T.setTop (mkF m pc Ls S)) RR := by
  subst hp
  obtain ⟨C, hh, hkm, locs, X0, N⟩ := X
  obtain ⟨hx, hby, hml, hZ, hown, hnm, hret, hlk, hR⟩ := id C
  obtain ⟨T', h', X', e', E', A', D', -, st⟩ := newO X0 hx hZ hown w1 w2 w3 hh (g := mkF m pc Ls S) rfl (hb hby hd) hc hl
  exact own_step (k T' h' _ rfl ⟨C, e', Nat.le_trans hkm E'.1, locs, X', N⟩ E' A' D') st
theorem own_getF {index : Nat} {O n d R0 : String} {a : Addr} {v : Value} (X : OwnSt p l e R s m args below meth c Z own bytes maxL ret nm n0 km Q RR T h cells slots) (hd : decode bytes pc = .ok (.getfield index, 3)) (w : (Cond.fieldLink own index R0 n d).before a0 Z = true) (via : Via Z R0 O n d) (F : Fld Z h a O n d v) (hp : pc + 3 = pc')
    (k : ∀ T', OwnSt p l e R s m args below meth c Z own bytes maxL ret nm n0 km Q RR T' h cells slots → OwnGo p e below (T'.setTop (mkF m pc' Ls (v :: S))) RR) : OwnGo p e below (T.setTop (mkF m pc Ls (.ref a :: S))) RR := by
  subst hp
  obtain ⟨C, hh, hkm, locs, X0, N⟩ := X
  obtain ⟨hx, hby, hml, hZ, hown, hnm, hret, hlk, hR⟩ := id C
  obtain ⟨T', X', e', st⟩ := getF X0 hx hZ hown (host := "") (Or.inl w) via hh F (g := mkF m pc Ls (.ref a :: S)) rfl rfl (hb hby hd)
  exact own_step (k T' ⟨C, e', hkm, locs, X', N⟩) st
theorem own_getS {index : Nat} {O n d R0 : String} {v : Value} (X : OwnSt p l e R s m args below meth c Z own bytes maxL ret nm n0 km Q RR T h cells slots) (hd : decode bytes pc = .ok (.getstatic index, 3)) (w : (Cond.fieldLink own index R0 n d).before a0 Z = true) (via : Via Z R0 O n d) (F : Sta Z h O n d v) (hp : pc + 3 = pc')
    (k : ∀ T', OwnSt p l e R s m args below meth c Z own bytes maxL ret nm n0 km Q RR T' h cells slots → OwnGo p e below (T'.setTop (mkF m pc' Ls (v :: S))) RR) : OwnGo p e below (T.setTop (mkF m pc Ls S)) RR := by
  subst hp
  obtain ⟨C, hh, hkm, locs, X0, N⟩ := X
  obtain ⟨hx, hby, hml, hZ, hown, hnm, hret, hlk, hR⟩ := id C
  obtain ⟨T', X', e', st⟩ := getS X0 hx hZ (host := "") hown w via hh F (g := mkF m pc Ls S) rfl (hb hby hd)
  exact own_step (k T' ⟨C, e', hkm, locs, X', N⟩) st
theorem own_putF {index kk : Nat} {O n d R0 K : String} {a : Addr} {v v' old : Value} {ty : FieldType} (X : OwnSt p l e R s m args below meth c Z own bytes maxL ret nm n0 km Q RR T h cells slots) (hd : decode bytes pc = .ok (.putfield index, 3)) (w : (Cond.fieldLink own index R0 n d).before a0 Z = true) (via : Via Z R0 O n d) (F : Fld Z h a O n d old) (E : Exa Z h a K) (L : (Cond.lays K O n d).before a0 Z = true ∨ ((Cond.laysFinal K O n d).before a0 Z = true ∧ own = O ∧ nm = "<init>")) (wi : (Cond.instantiable K kk).before a0 Z = true)
    (hty : parseFieldDescriptor d = some ty) (hn : narrow ty v = v') (hf : fits ty v' = true) (hge : n0 ≤ a) (hp : pc + 3 = pc')
    (k : ∀ T' h', OwnSt p l e R s m args below meth c Z own bytes maxL ret nm n0 km Q RR T' h' cells slots → Wr h h' a (Jvm.RoadKit.slotOf Z O n d) v' → OwnGo p e below (T'.setTop (mkF m pc' Ls S)) RR) : OwnGo p e below (T.setTop (mkF m pc Ls (v :: .ref a :: S))) RR := by
  subst hp
  obtain ⟨C, hh, hkm, locs, X0, N⟩ := X
  obtain ⟨hx, hby, hml, hZ, hown, hnm, hret, hlk, hR⟩ := id C
  obtain ⟨T', h', X', e', W', st⟩ := putFN X0 hx hZ hown w via hh F E (L.imp id fun q => ⟨q.1, q.2.1, hnm.trans q.2.2⟩) wi hty hn hf (g := mkF m pc Ls (v :: .ref a :: S)) rfl rfl (hb hby hd)
  exact own_step (k T' h' ⟨C, e', Nat.le_trans hkm (Nat.le_of_eq W'.size.symm), _, X', Fr.snoc X' N hge⟩ W') st
/-! from the case's words to facts -/
theorem own_fldL {st : State} {as' : Array Value} {t : Term} {C n d : String} {x : Addr} {z : Int64} (ht : t.eval as' st none [] st = some (.ref x)) (h : (Cond.eq (.field t C n d) (.long z)).value as' st none st [] = some true) : Fld st st.heap x C n d (.long z) := by
  obtain ⟨a, b, e1, e2, k1, k2⟩ := cmp_v (Or.inl h)
  cases (long_at z).symm.trans e2
  obtain ⟨w, rfl⟩ := k2
  have q := gotT (eq_L e1 e2) h
  subst q
  exact Fld.start ((fld_at ht).symm.trans e1)
theorem own_fldI {st : State} {as' : Array Value} {t : Term} {C n d : String} {x : Addr} {z : Int32} (ht : t.eval as' st none [] st = some (.ref x)) (h : (Cond.eq (.field t C n d) (.int z)).value as' st none st [] = some true) : Fld st st.heap x C n d (.int z) := by
  obtain ⟨a, b, e1, e2, k1, k2⟩ := cmp_v (Or.inl h)
  cases (Term.int_eval z).symm.trans e2
  obtain ⟨w, rfl⟩ := k2
  have q : w = z := by simpa [Cond.value, e1, e2] using h
  subst q
  exact Fld.start ((fld_at ht).symm.trans e1)
/-! calls by contract -/
theorem own_callC {index : Nat} {y : MethodName} {bytes' : ByteArray} {maxL' : Nat} {rm : Room} {a : Addr} {argsL : List Value} {Q' : Option Value → Heap → Prop} {ps : List FieldType} {W : Nat}
    (X : OwnSt p l e R s m args below meth c Z own bytes maxL ret nm n0 km Q RR T h cells slots) (hd : decode bytes pc = .ok (.invokespecial index, 3)) (hy : y.name = "<init>" ∧ y.cls ≠ "java/lang/invoke/MethodHandle" ∧ y.cls ≠ "java/lang/invoke/VarHandle")
    (w1 : (Cond.methodLink own index y).before a0 Z = true) (w2 : (Cond.instanceMethod y).before a0 Z = true) (w3 : (Cond.code y bytes' maxL' none).before a0 Z = true) (w4 : (Cond.initialized y.cls).before a0 Z = true)
    (M : OwnMet l Z y bytes' maxL' none rm (.ref a :: argsL).toArray h n0 Q') (hpd : parseMethodDescriptor y.desc = some ⟨ps, none⟩) (hlen : argsL.length = ps.length) {st : List Value} (hst : st = argsL.reverse ++ .ref a :: S) (hp : pc + 3 = pc') (hsz : Ls.size = maxL)
    (hW : 0 + (S.map fun v => v.category).sum ≤ W) (hf : rm.frames + 1 ≤ R.frames) (hlo : W + (maxL' + 11) + rm.locals ≤ R.locals) (hc : cells + rm.cells ≤ R.cells) (hl : slots + rm.slots ≤ R.slots)
    (k : ∀ T' h' v, OwnSt p l e R s m args below meth c Z own bytes maxL ret nm n0 km Q RR T' h' (cells + rm.cells) (slots + rm.slots) → Q' v h' → OwnGo p e below (T'.setTop (mkF m pc' Ls (v.toList ++ S))) RR) : OwnGo p e below (T.setTop (mkF m pc Ls st)) RR := by
  subst hp hst
  obtain ⟨C, hh, hkm, locs, X0, N⟩ := X
  obtain ⟨hx, hby, hml, hZ, hown, hnm, hret, hlk, hR⟩ := id C
  obtain ⟨v, _, ⟨T', L', c', s'⟩, -, X', ⟨Lc, hQ, e1, e2, e3⟩, st⟩ := X0.specialBack hx hy.1 hown (mvT hZ w1) (mvT hZ w2) (mvT hZ w3) hy.2 (backOf (W := W) (Q := fun v h' L => (Q' v h' ∧ h.size ≤ h'.size) ∧ Fr n0 L) (M []) hZ w3 w4 hf hlo) (g := mkF m pc Ls (argsL.reverse ++ .ref a :: S)) rfl (hsz.trans hml.symm) (Steps.refl _) (a := a) (argsL := argsL) (rest := S) (lenOf hpd hlen) rfl hW (hb hby hd) (fun _ _ => ⟨rfl, hh, hc, hl⟩)
  dsimp only [Pt.U, Pt.locs, Pt.cells, Pt.slots] at X' e1 e2 e3 st hQ
  subst e1 e2 e3
  exact own_step (k T' _ v ⟨C, rfl, Nat.le_trans hkm hQ.1.2, _, X', Fr.app N hQ.2⟩ hQ.1.1) fun t q => st.trans q
theorem own_callV {index : Nat} {y : MethodName} {K : String} {bytes' : ByteArray} {maxL' : Nat} {ret' : Option FieldType} {rm : Room} {a : Addr} {argsL : List Value} {Q' : Option Value → Heap → Prop} {ps : List FieldType} {W : Nat}
    (X : OwnSt p l e R s m args below meth c Z own bytes maxL ret nm n0 km Q RR T h cells slots) (hd : decode bytes pc = .ok (.invokevirtual index, 3)) (hy : y.cls ≠ "java/lang/invoke/MethodHandle" ∧ y.cls ≠ "java/lang/invoke/VarHandle")
    (w1 : (Cond.methodLink own index y).before a0 Z = true) (w2 : (Cond.declares y).before a0 Z = true) (w3 : (Cond.selects K y y).before a0 Z = true) (w4 : (Cond.instanceMethod y).before a0 Z = true) (w5 : (Cond.code y bytes' maxL' ret').before a0 Z = true) (w6 : (Cond.initialized y.cls).before a0 Z = true) (E : Exa Z h a K)
    (M : OwnMet l Z y bytes' maxL' ret' rm (.ref a :: argsL).toArray h n0 Q') {rt : Option FieldType} (hpd : parseMethodDescriptor y.desc = some ⟨ps, rt⟩) (hlen : argsL.length = ps.length) {st : List Value} (hst : st = argsL.reverse ++ .ref a :: S) (hp : pc + 3 = pc') (hsz : Ls.size = maxL)
    (hW : 0 + (S.map fun v => v.category).sum ≤ W) (hf : rm.frames + 1 ≤ R.frames) (hlo : W + (maxL' + 11) + rm.locals ≤ R.locals) (hc : cells + rm.cells ≤ R.cells) (hl : slots + rm.slots ≤ R.slots)
    (k : ∀ T' h' v, OwnSt p l e R s m args below meth c Z own bytes maxL ret nm n0 km Q RR T' h' (cells + rm.cells) (slots + rm.slots) → Q' v h' → OwnGo p e below (T'.setTop (mkF m pc' Ls (v.toList ++ S))) RR) : OwnGo p e below (T.setTop (mkF m pc Ls st)) RR := by
  subst hp hst
  obtain ⟨C, hh, hkm, locs, X0, N⟩ := X
  obtain ⟨hx, hby, hml, hZ, hown, hnm, hret, hlk, hR⟩ := id C
  obtain ⟨cq, kq, qa, qb, qc⟩ := isOf hZ hh E
  obtain ⟨v, _, ⟨T', L', c', s'⟩, -, X', ⟨Lc, hQ, e1, e2, e3⟩, st⟩ := X0.virtualBack hx (y := y) (z := y) hown (mvT hZ w1) (mvT hZ w2) (notFace_of_selects (args := #[]) (mvT hZ w3)) (mvT hZ w3) (mvT hZ w4) hy (backOf (W := W) (Q := fun v h' L => (Q' v h' ∧ h.size ≤ h'.size) ∧ Fr n0 L) (M []) hZ w5 w6 hf hlo) qa qc (g := mkF m pc Ls (argsL.reverse ++ .ref a :: S)) rfl (hsz.trans hml.symm) (Steps.refl _) (argsL := argsL) (rest := S) (lenOf hpd hlen) rfl hW (hb hby hd) (fun _ _ => ⟨rfl, hh, hc, hl⟩)
  dsimp only [Pt.U, Pt.locs, Pt.cells, Pt.slots] at X' e1 e2 e3 st hQ
  subst e1 e2 e3
  exact own_step (k T' _ v ⟨C, rfl, Nat.le_trans hkm hQ.1.2, _, X', Fr.app N hQ.2⟩ hQ.1.1) fun t q => st.trans q
theorem own_callP {index kk : Nat} {y : MethodName} {K : String} {bytes' : ByteArray} {maxL' : Nat} {ret' : Option FieldType} {rm : Room} {a : Addr} {argsL : List Value} {Q' : Option Value → Heap → Prop} {ps : List FieldType} {W : Nat}
    (X : OwnSt p l e R s m args below meth c Z own bytes maxL ret nm n0 km Q RR T h cells slots) (hd : decode bytes pc = .ok (.invokevirtual index, 3)) (hy : y.cls ≠ "java/lang/invoke/MethodHandle" ∧ y.cls ≠ "java/lang/invoke/VarHandle")
    (w1 : (Cond.methodLink own index y).before a0 Z = true) (w2 : (Cond.privateMethod y).before a0 Z = true) (w3 : (Cond.instantiable y.cls kk).before a0 Z = true) (w4 : (Cond.instanceMethod y).before a0 Z = true) (w5 : (Cond.code y bytes' maxL' ret').before a0 Z = true) (w6 : (Cond.initialized y.cls).before a0 Z = true) (E : Exa Z h a K)
    (M : OwnMet l Z y bytes' maxL' ret' rm (.ref a :: argsL).toArray h n0 Q') {rt : Option FieldType} (hpd : parseMethodDescriptor y.desc = some ⟨ps, rt⟩) (hlen : argsL.length = ps.length) {st : List Value} (hst : st = argsL.reverse ++ .ref a :: S) (hp : pc + 3 = pc') (hsz : Ls.size = maxL)
    (hW : 0 + (S.map fun v => v.category).sum ≤ W) (hf : rm.frames + 1 ≤ R.frames) (hlo : W + (maxL' + 11) + rm.locals ≤ R.locals) (hc : cells + rm.cells ≤ R.cells) (hl : slots + rm.slots ≤ R.slots)
    (k : ∀ T' h' v, OwnSt p l e R s m args below meth c Z own bytes maxL ret nm n0 km Q RR T' h' (cells + rm.cells) (slots + rm.slots) → Q' v h' → OwnGo p e below (T'.setTop (mkF m pc' Ls (v.toList ++ S))) RR) : OwnGo p e below (T.setTop (mkF m pc Ls st)) RR := by
  subst hp hst
  obtain ⟨C, hh, hkm, locs, X0, N⟩ := X
  obtain ⟨hx, hby, hml, hZ, hown, hnm, hret, hlk, hR⟩ := id C
  obtain ⟨cl, q, q'⟩ := E.cell
  have hpriv : s.PrivateAt y := Cond.privateMethod_at (mvP hZ w2 (args := #[]))
  have wi : (Cond.instantiable y.cls kk).before args s = true := mvT hZ w3
  obtain ⟨c2, k2, i1, i2, i3, i4, -⟩ := Cond.instantiable_spec wi
  have i5 : k2.isInterface = false := by
    cases hq : k2.isInterface
    · rfl
    · rw [hq] at i4; cases i4
  have hsel : (Cond.selects y.cls y y).before args s = true := selects_self_of_private i1 i2 i5 hpriv (mvT hZ w4) hy
  obtain ⟨v, _, ⟨T', L', c', s'⟩, -, X', ⟨Lc, hQ, e1, e2, e3⟩, st⟩ := X0.privateBack hx (y := y) hown (mvT hZ w1) (mvT hZ w4) hsel hpriv (mvT hZ w5) hy (backOf (W := W) (Q := fun v h' L => (Q' v h' ∧ h.size ≤ h'.size) ∧ Fr n0 L) (M []) hZ w5 w6 hf hlo) (g := mkF m pc Ls (argsL.reverse ++ .ref a :: S)) rfl (hsz.trans hml.symm) (Steps.refl _) (a := a) (by rw [hh]; exact q) q' (argsL := argsL) (rest := S) (lenOf hpd hlen) rfl hW (hb hby hd) (fun _ _ => ⟨rfl, hh, hc, hl⟩)
  dsimp only [Pt.U, Pt.locs, Pt.cells, Pt.slots] at X' e1 e2 e3 st hQ
  subst e1 e2 e3
  exact own_step (k T' _ v ⟨C, rfl, Nat.le_trans hkm hQ.1.2, _, X', Fr.app N hQ.2⟩ hQ.1.1) fun t q => st.trans q
theorem own_callS {index : Nat} {y : MethodName} {bytes' : ByteArray} {maxL' : Nat} {ret' : Option FieldType} {rm : Room} {argsL : List Value} {Q' : Option Value → Heap → Prop} {ps : List FieldType} {W : Nat}
    (X : OwnSt p l e R s m args below meth c Z own bytes maxL ret nm n0 km Q RR T h cells slots) (hd : decode bytes pc = .ok (.invokestatic index, 3)) (hy : y.cls ≠ "java/lang/invoke/MethodHandle" ∧ y.cls ≠ "java/lang/invoke/VarHandle")
    (w1 : (Cond.methodLink own index y).before a0 Z = true) (w2 : (Cond.static y).before a0 Z = true) (w5 : (Cond.code y bytes' maxL' ret').before a0 Z = true) (w6 : (Cond.initialized y.cls).before a0 Z = true)
    (M : OwnMet l Z y bytes' maxL' ret' rm argsL.toArray h n0 Q') {rt : Option FieldType} (hpd : parseMethodDescriptor y.desc = some ⟨ps, rt⟩) (hlen : argsL.length = ps.length) {st : List Value} (hst : st = argsL.reverse ++ S) (hp : pc + 3 = pc') (hsz : Ls.size = maxL)
    (hW : 0 + (S.map fun v => v.category).sum ≤ W) (hf : rm.frames + 1 ≤ R.frames) (hlo : W + (maxL' + 11) + rm.locals ≤ R.locals) (hc : cells + rm.cells ≤ R.cells) (hl : slots + rm.slots ≤ R.slots)
    (k : ∀ T' h' v, OwnSt p l e R s m args below meth c Z own bytes maxL ret nm n0 km Q RR T' h' (cells + rm.cells) (slots + rm.slots) → Q' v h' → OwnGo p e below (T'.setTop (mkF m pc' Ls (v.toList ++ S))) RR) : OwnGo p e below (T.setTop (mkF m pc Ls st)) RR := by
  subst hp hst
  obtain ⟨C, hh, hkm, locs, X0, N⟩ := X
  obtain ⟨hx, hby, hml, hZ, hown, hnm, hret, hlk, hR⟩ := id C
  obtain ⟨v, _, ⟨T', L', c', s'⟩, -, X', ⟨Lc, hQ, e1, e2, e3⟩, st⟩ := Jvm.LawKit.callS X0 hx (y := y) hown (mvT hZ w1) (mvT hZ w2) (mvT hZ w6) (mvT hZ w5) hy (backOf (W := W) (Q := fun v h' L => (Q' v h' ∧ h.size ≤ h'.size) ∧ Fr n0 L) (M []) hZ w5 w6 hf hlo) (g := mkF m pc Ls (argsL.reverse ++ S)) rfl (hsz.trans hml.symm) (argsL := argsL) (rest := S) (lenOf hpd hlen) rfl hW (hb hby hd) (fun _ _ => ⟨rfl, hh, hc, hl⟩)
  dsimp only [Pt.U, Pt.locs, Pt.cells, Pt.slots] at X' e1 e2 e3 st hQ
  subst e1 e2 e3
  exact own_step (k T' _ v ⟨C, rfl, Nat.le_trans hkm hQ.1.2, _, X', Fr.app N hQ.2⟩ hQ.1.1) st
end OwnKit
/-! ## own kit, arrays: the whole list of what lies in them -/
section OwnArr
variable {p : Program} {l : Launch} {e : Env} {R : Room} {s : State} {m : MethodId} {args : Array Value} {below : List Frame} {meth : Method} {c : Code} {Z : State} {own : String} {bytes : ByteArray} {maxL : Nat} {ret : Option FieldType} {nm : String} {n0 km : Nat} {Q : Option Value → Heap → Prop} {RR : State → Outcome → Prop} {T : State} {h h' : Heap} {cells slots : Nat} {a0 : Array Value} {pc pc' : Nat} {Ls : Array Slot} {S : List Value} {a b : Addr} {ty : FieldType} {vs : List Value} {sl : Nat} {v : Value} {ws : List Addr}
def OwnAr (Z : State) (h : Heap) (a : Addr) (ty : FieldType) (vs : List Value) : Prop := ∃ c : Cell, Arr Z h a c ty ∧ c.slots = vs.toArray ∧ vs.length < 2 ^ 31
theorem OwnAr.lt (F : OwnAr Z h a ty vs) : a < h.size := F.elim fun _ q => q.1.lt
theorem OwnAr.ext (F : OwnAr Z h a ty vs) (E : Ext h h') : OwnAr Z h' a ty vs := by obtain ⟨c, A, r⟩ := F; exact ⟨c, A.ext E, r⟩
theorem OwnAr.other (F : OwnAr Z h b ty vs) (W : Wr h h' a sl v) (q : b ≠ a) : OwnAr Z h' b ty vs := by obtain ⟨c, A, r⟩ := F; exact ⟨c, A.other W q, r⟩
theorem OwnAr.keep (F : OwnAr Z h a ty vs) (K : Keep h h' ws) (q : a ∉ ws) : OwnAr Z h' a ty vs := by obtain ⟨c, A, r⟩ := F; exact ⟨c, ⟨K.2.1 a c A.1 q, A.2⟩, r⟩
theorem OwnAr.same (F : OwnAr Z h a ty vs) (W : Wr h h' a sl v) : OwnAr Z h' a ty (vs.set sl v) := by
  obtain ⟨c, A, r1, r2⟩ := F
  exact ⟨_, A.same W, by simp [Cell.setSlot, r1], by simpa using r2⟩
theorem OwnAr.in (F : OwnAr Z h a ty vs) {j : Int32} (h1 : ¬ j < 0) (h2 : j.toNatClampNeg < vs.length) {c : Cell} (r1 : c.slots = vs.toArray) : ¬ (j < 0 ∨ c.slots.size ≤ j.toNatClampNeg) := by
  rintro (q | q)
  · exact h1 q
  · rw [r1, List.size_toArray] at q; omega
theorem own_lt_of_get {i : Nat} {x : Value} (q : vs[i]? = some x) : i < vs.length := (List.getElem?_eq_some_iff.mp q).1
theorem own_getI {xs : List Int32} {i : Nat} (q : i < xs.length) : (xs.map Value.int)[i]? = some (.int (xs.getD i 0)) := by
  rw [List.getElem?_map, List.getElem?_eq_getElem q, List.getD_eq_getElem?_getD, List.getElem?_eq_getElem q]; rfl
theorem own_getJ {xs : List Int64} {i : Nat} (q : i < xs.length) : (xs.map Value.long)[i]? = some (.long (xs.getD i 0)) := by
  rw [List.getElem?_map, List.getElem?_eq_getElem q, List.getD_eq_getElem?_getD, List.getElem?_eq_getElem q]; rfl
theorem own_newarr {aty : ArrayType} {n : Int32} {cap : Nat} (X : OwnSt p l e R s m args below meth c Z own bytes maxL ret nm n0 km Q RR T h cells slots) (hd : decode bytes pc = .ok (.newarray aty, 2)) (w : (Cond.arrayClass (newarray.typeOf aty)).before a0 Z = true) (hp : pc + 2 = pc') (hn : ¬ n < 0) (hcap : n.toNatClampNeg ≤ cap) (hbig : cap * 8 ≤ 536870912) (hc : cells + 1 ≤ R.cells) (hl : slots + cap ≤ R.slots)
    (k : ∀ T' h' b, b = h.size → OwnSt p l e R s m args below meth c Z own bytes maxL ret nm n0 km Q RR T' h' (cells + 1) (slots + cap) → Ext h h' → OwnAr Z h' b (newarray.typeOf aty) (List.replicate n.toNatClampNeg (defaultValue (newarray.typeOf aty))) → OwnGo p e below (T'.setTop (mkF m pc' Ls (.ref b :: S))) RR) : OwnGo p e below (T.setTop (mkF m pc Ls (.int n :: S))) RR := by
  subst hp
  obtain ⟨C, hh, hkm, locs, X0, N⟩ := X
  obtain ⟨hx, hby, hml, hZ, hown, hnm, hret, hlk, hR⟩ := id C
  obtain ⟨T', h', cA, X', e', E', A', st⟩ := newP X0 hx hZ w hh (g := mkF m pc Ls (.int n :: S)) rfl (hb hby hd) rfl hn hcap hbig hc hl
  exact own_step (k T' h' _ rfl ⟨C, e', Nat.le_trans hkm E'.1, locs, X', N⟩ E' ⟨_, A', by simp [newA], by simp only [List.length_replicate]; omega⟩) st
theorem own_arraylength (X : OwnSt p l e R s m args below meth c Z own bytes maxL ret nm n0 km Q RR T h cells slots) (hd : decode bytes pc = .ok (.arraylength, 1)) (A : OwnAr Z h a ty vs) {n : Int32} (hn : vs.length.toInt32 = n) (hp : pc + 1 = pc') (k : OwnGo p e below (T.setTop (mkF m pc' Ls (.int n :: S))) RR) : OwnGo p e below (T.setTop (mkF m pc Ls (.ref a :: S))) RR := by
  subst hp hn
  obtain ⟨C, hh, hkm, locs, X0, N⟩ := id X
  obtain ⟨cl, A0, r1, r2⟩ := A
  refine own_step k fun t q => ?_
  refine X0.arraylength X.hx (by rw [hh]; exact A0.1) (State.isArrayOf_alike X.hZ.alike A0.2.1) (g := mkF m pc Ls (.ref a :: S)) rfl rfl (hb X.by' hd) _ ?_
  rw [r1, List.size_toArray]; exact q
theorem own_iaload {j : Int32} (X : OwnSt p l e R s m args below meth c Z own bytes maxL ret nm n0 km Q RR T h cells slots) (hd : decode bytes pc = .ok (.iaload, 1)) (A : OwnAr Z h a .int vs) (hj : ¬ j < 0) (hv : vs[j.toNatClampNeg]? = some v) (hp : pc + 1 = pc') (k : OwnGo p e below (T.setTop (mkF m pc' Ls (v :: S))) RR) : OwnGo p e below (T.setTop (mkF m pc Ls (.int j :: .ref a :: S))) RR := by
  subst hp
  obtain ⟨C, hh, hkm, locs, X0, N⟩ := id X
  obtain ⟨cl, A0, r1, r2⟩ := id A
  exact own_step k fun t q => X0.iaload X.hx (by rw [hh]; exact A0.1) (State.isArrayOf_alike X.hZ.alike A0.2.1) A0.2.2 (A.in hj (own_lt_of_get hv) r1) (by rw [r1, List.getElem?_toArray]; exact hv) (g := mkF m pc Ls (.int j :: .ref a :: S)) rfl rfl (hb X.by' hd) _ q
theorem own_laload {j : Int32} (X : OwnSt p l e R s m args below meth c Z own bytes maxL ret nm n0 km Q RR T h cells slots) (hd : decode bytes pc = .ok (.laload, 1)) (A : OwnAr Z h a .long vs) (hj : ¬ j < 0) (hv : vs[j.toNatClampNeg]? = some v) (hp : pc + 1 = pc') (k : OwnGo p e below (T.setTop (mkF m pc' Ls (v :: S))) RR) : OwnGo p e below (T.setTop (mkF m pc Ls (.int j :: .ref a :: S))) RR := by
  subst hp
  obtain ⟨C, hh, hkm, locs, X0, N⟩ := id X
  obtain ⟨cl, A0, r1, r2⟩ := id A
  exact own_step k fun t q => X0.laload X.hx (by rw [hh]; exact A0.1) (State.isArrayOf_alike X.hZ.alike A0.2.1) A0.2.2 (A.in hj (own_lt_of_get hv) r1) (by rw [r1, List.getElem?_toArray]; exact hv) (g := mkF m pc Ls (.int j :: .ref a :: S)) rfl rfl (hb X.by' hd) _ q
theorem own_caload {j : Int32} (X : OwnSt p l e R s m args below meth c Z own bytes maxL ret nm n0 km Q RR T h cells slots) (hd : decode bytes pc = .ok (.caload, 1)) (A : OwnAr Z h a .char vs) (hj : ¬ j < 0) (hv : vs[j.toNatClampNeg]? = some v) (hp : pc + 1 = pc') (k : OwnGo p e below (T.setTop (mkF m pc' Ls (v :: S))) RR) : OwnGo p e below (T.setTop (mkF m pc Ls (.int j :: .ref a :: S))) RR := by
  subst hp
  obtain ⟨C, hh, hkm, locs, X0, N⟩ := id X
  obtain ⟨cl, A0, r1, r2⟩ := id A
  exact own_step k fun t q => X0.caload X.hx (by rw [hh]; exact A0.1) (State.isArrayOf_alike X.hZ.alike A0.2.1) A0.2.2 (A.in hj (own_lt_of_get hv) r1) (by rw [r1, List.getElem?_toArray]; exact hv) (g := mkF m pc Ls (.int j :: .ref a :: S)) rfl rfl (hb X.by' hd) _ q
theorem own_baload {j : Int32} (X : OwnSt p l e R s m args below meth c Z own bytes maxL ret nm n0 km Q RR T h cells slots) (hd : decode bytes pc = .ok (.baload, 1)) (A : OwnAr Z h a .byte vs) (hj : ¬ j < 0) (hv : vs[j.toNatClampNeg]? = some v) (hp : pc + 1 = pc') (k : OwnGo p e below (T.setTop (mkF m pc' Ls (v :: S))) RR) : OwnGo p e below (T.setTop (mkF m pc Ls (.int j :: .ref a :: S))) RR := by
  subst hp
  obtain ⟨C, hh, hkm, locs, X0, N⟩ := id X
  obtain ⟨cl, A0, r1, r2⟩ := id A
  exact own_step k fun t q => X0.baloadBytes X.hx (by rw [hh]; exact A0.1) (State.isArrayOf_alike X.hZ.alike A0.2.1) A0.2.2 (A.in hj (own_lt_of_get hv) r1) (by rw [r1, List.getElem?_toArray]; exact hv) (g := mkF m pc Ls (.int j :: .ref a :: S)) rfl rfl (hb X.by' hd) _ q
theorem own_aaload {j : Int32} (X : OwnSt p l e R s m args below meth c Z own bytes maxL ret nm n0 km Q RR T h cells slots) (hd : decode bytes pc = .ok (.aaload, 1)) (A : OwnAr Z h a ty vs) (hty : ty.isReference = true) (hj : ¬ j < 0) (hv : vs[j.toNatClampNeg]? = some v) (hp : pc + 1 = pc') (k : OwnGo p e below (T.setTop (mkF m pc' Ls (v :: S))) RR) : OwnGo p e below (T.setTop (mkF m pc Ls (.int j :: .ref a :: S))) RR := by
  subst hp
  obtain ⟨C, hh, hkm, locs, X0, N⟩ := id X
  obtain ⟨cl, A0, r1, r2⟩ := id A
  exact own_step k fun t q => X0.aaload X.hx (by rw [hh]; exact A0.1) (State.isArrayOf_alike X.hZ.alike A0.2.1) hty A0.2.2 (A.in hj (own_lt_of_get hv) r1) (by rw [r1, List.getElem?_toArray]; exact hv) (g := mkF m pc Ls (.int j :: .ref a :: S)) rfl rfl (hb X.by' hd) _ q
theorem own_iastore {j : Int32} {x : Int32} (X : OwnSt p l e R s m args below meth c Z own bytes maxL ret nm n0 km Q RR T h cells slots) (hd : decode bytes pc = .ok (.iastore, 1)) (A : OwnAr Z h a .int vs) (hj : ¬ j < 0) (hj2 : j.toNatClampNeg < vs.length) (hge : n0 ≤ a) (hp : pc + 1 = pc') (k : ∀ T' h', OwnSt p l e R s m args below meth c Z own bytes maxL ret nm n0 km Q RR T' h' cells slots → Wr h h' a j.toNatClampNeg (.int x) → OwnAr Z h' a .int (vs.set j.toNatClampNeg (.int x)) → OwnGo p e below (T'.setTop (mkF m pc' Ls S)) RR) : OwnGo p e below (T.setTop (mkF m pc Ls (.int x :: .int j :: .ref a :: S))) RR := by
  subst hp
  obtain ⟨C, hh, hkm, locs, X0, N⟩ := id X
  obtain ⟨cl, A0, r1, r2⟩ := id A
  obtain ⟨T', h', X', e', W', st⟩ := stI X0 X.hx X.hZ hh A0 (A.in hj hj2 r1) (g := mkF m pc Ls (.int x :: .int j :: .ref a :: S)) rfl rfl (hb X.by' hd)
  exact own_step (k T' h' ⟨C, e', Nat.le_trans hkm (Nat.le_of_eq W'.size.symm), _, X', Fr.snoc X' N hge⟩ W' (A.same W')) st
theorem own_lastore {j : Int32} {x : Int64} (X : OwnSt p l e R s m args below meth c Z own bytes maxL ret nm n0 km Q RR T h cells slots) (hd : decode bytes pc = .ok (.lastore, 1)) (A : OwnAr Z h a .long vs) (hj : ¬ j < 0) (hj2 : j.toNatClampNeg < vs.length) (hge : n0 ≤ a) (hp : pc + 1 = pc') (k : ∀ T' h', OwnSt p l e R s m args below meth c Z own bytes maxL ret nm n0 km Q RR T' h' cells slots → Wr h h' a j.toNatClampNeg (.long x) → OwnAr Z h' a .long (vs.set j.toNatClampNeg (.long x)) → OwnGo p e below (T'.setTop (mkF m pc' Ls S)) RR) : OwnGo p e below (T.setTop (mkF m pc Ls (.long x :: .int j :: .ref a :: S))) RR := by
  subst hp
  obtain ⟨C, hh, hkm, locs, X0, N⟩ := id X
  obtain ⟨cl, A0, r1, r2⟩ := id A
  obtain ⟨T', h', X', e', W', st⟩ := stJ X0 X.hx X.hZ hh A0 (A.in hj hj2 r1) (g := mkF m pc Ls (.long x :: .int j :: .ref a :: S)) rfl rfl (hb X.by' hd)
  exact own_step (k T' h' ⟨C, e', Nat.le_trans hkm (Nat.le_of_eq W'.size.symm), _, X', Fr.snoc X' N hge⟩ W' (A.same W')) st
theorem own_castore {j : Int32} {x : Int32} (X : OwnSt p l e R s m args below meth c Z own bytes maxL ret nm n0 km Q RR T h cells slots) (hd : decode bytes pc = .ok (.castore, 1)) (A : OwnAr Z h a .char vs) (hj : ¬ j < 0) (hj2 : j.toNatClampNeg < vs.length) (hge : n0 ≤ a) (hp : pc + 1 = pc') (k : ∀ T' h', OwnSt p l e R s m args below meth c Z own bytes maxL ret nm n0 km Q RR T' h' cells slots → Wr h h' a j.toNatClampNeg (.int (x.toUInt32.toUInt16.toUInt32.toInt32)) → OwnAr Z h' a .char (vs.set j.toNatClampNeg (.int (x.toUInt32.toUInt16.toUInt32.toInt32))) → OwnGo p e below (T'.setTop (mkF m pc' Ls S)) RR) : OwnGo p e below (T.setTop (mkF m pc Ls (.int x :: .int j :: .ref a :: S))) RR := by
  subst hp
  obtain ⟨C, hh, hkm, locs, X0, N⟩ := id X
  obtain ⟨cl, A0, r1, r2⟩ := id A
  obtain ⟨T', h', X', e', W', st⟩ := stC X0 X.hx X.hZ hh A0 (A.in hj hj2 r1) (g := mkF m pc Ls (.int x :: .int j :: .ref a :: S)) rfl rfl (hb X.by' hd)
  exact own_step (k T' h' ⟨C, e', Nat.le_trans hkm (Nat.le_of_eq W'.size.symm), _, X', Fr.snoc X' N hge⟩ W' (A.same W')) st
end OwnArr
theorem own_nn (x : Int32) : (x.toUInt32.toUInt16.toUInt32.toInt32).toUInt32.toUInt16.toUInt32.toInt32 = x.toUInt32.toUInt16.toUInt32.toInt32 := by
  have h : ∀ u : UInt16, u.toUInt32.toInt32.toUInt32.toUInt16 = u := fun u => by simp
  rw [h]
theorem own_ix {k n : Nat} (h : k < n) (hn : n < 2147483648) : ¬ (Int32.ofNat k < 0) ∧ (Int32.ofNat k).toNatClampNeg = k ∧ Int32.ofNat k < Int32.ofNat n := by
  have e1 : (Int32.ofNat k).toInt = k := len_toInt (n := k) (by omega)
  have e2 : (Int32.ofNat n).toInt = n := len_toInt (n := n) (by omega)
  have e0 : (0 : Int32).toInt = 0 := rfl
  refine ⟨?_, ?_, ?_⟩
  · rw [Int32.lt_iff_toInt_lt]; omega
  · simp only [Int32.toNatClampNeg, e1]; rfl
  · rw [Int32.lt_iff_toInt_lt]; omega
theorem own_ofs (k : Nat) : Int32.ofNat k + Int32.ofInt 1 = Int32.ofNat (k + 1) := by
  rw [Int32.ofNat_add]; rfl
def ownP : List Int64 := [1, 10, 100, 1000, 10000, 100000, 1000000, 10000000, 100000000, 1000000000, 10000000000, 100000000000, 1000000000000, 10000000000000, 100000000000000, 1000000000000000, 10000000000000000, 100000000000000000, 1000000000000000000]
theorem own_pp (k : Nat) (hk : k < 19) : (ownP.getD k 0).toInt = 10 ^ k := by
  have h : ∀ k : Fin 19, (ownP.getD k.val 0).toInt = 10 ^ k.val := by decide
  exact h ⟨k, hk⟩
def ownJ (i dot : Int32) : Int32 := if dot < (0 : Int32) then i else (if dot < i then (i - (1 : Int32)) else i)
def ownQ (i dot D : Int32) (v : Int64) : Int64 := v / ownP.getD ((D - (1 : Int32)) - ownJ i dot).toNatClampNeg 0
def ownCh (i dot D : Int32) (v : Int64) : Int32 := if i = dot then (46 : Int32) else ((48 : Int64) + (ownQ i dot D v - (ownQ i dot D v / (10 : Int64)) * (10 : Int64))).toInt32.toUInt32.toUInt16.toUInt32.toInt32
def ownFill (n : Nat) (dot D : Int32) (v : Int64) : Nat → List Int32
  | 0 => List.replicate n 0
  | k + 1 => (ownFill n dot D v k).set k (ownCh (Int32.ofNat k) dot D v)
theorem own_fl (n : Nat) (dot D : Int32) (v : Int64) (k : Nat) : (ownFill n dot D v k).length = n := by
  induction k with
  | zero => simp [ownFill]
  | succ k ih => rw [ownFill, List.length_set, ih]
theorem own_fg (n : Nat) (dot D : Int32) (v : Int64) (k j : Nat) (hj : j < k) (hn : j < n) : (ownFill n dot D v k).getD j 0 = ownCh (Int32.ofNat j) dot D v := by
  induction k with
  | zero => omega
  | succ k ih =>
    rw [ownFill]
    simp only [List.getD_eq_getElem?_getD]
    by_cases q : k = j
    · subst q; rw [List.getElem?_set_self (by rw [own_fl]; exact hn)]; rfl
    · rw [List.getElem?_set_ne q, ← List.getD_eq_getElem?_getD]; exact ih (by omega)
def ownFold (xs : List Int32) : Nat → Int64
  | 0 => 0
  | k + 1 => if xs.getD k 0 = (46 : Int32) then ownFold xs k else (ownFold xs k * (10 : Int64)) + (xs.getD k 0 - (48 : Int32)).toInt64
/-- the road's figures: the length n, the dot's place, the number of digits -/
def OwnRel (n dot D : Int32) : Prop := 0 ≤ n.toInt ∧ n.toInt ≤ 19 ∧ ((dot.toInt = -1 ∧ D.toInt = n.toInt ∧ n.toInt ≤ 18) ∨ (0 ≤ dot.toInt ∧ dot.toInt < n.toInt ∧ D.toInt = n.toInt - 1))
theorem own_subI (a b : Int32) (h : -2147483648 ≤ a.toInt - b.toInt ∧ a.toInt - b.toInt < 2147483648) : (a - b).toInt = a.toInt - b.toInt := by
  rw [Int32.toInt_sub]; exact Int.bmod_eq_of_le (by omega) (by omega)
theorem own_jx (n dot D i : Int32) (hR : OwnRel n dot D) (h0 : 0 ≤ i.toInt) (h1 : i.toInt < n.toInt) (h2 : ¬ i.toInt = dot.toInt) : ((D - (1 : Int32)) - ownJ i dot).toInt = D.toInt - 1 - (if 0 ≤ dot.toInt ∧ dot.toInt < i.toInt then i.toInt - 1 else i.toInt) ∧ 0 ≤ ((D - (1 : Int32)) - ownJ i dot).toInt ∧ ((D - (1 : Int32)) - ownJ i dot).toInt < 18 := by
  obtain ⟨g1, g2, g3⟩ := hR
  have e0 : (0 : Int32).toInt = 0 := rfl
  have e1 : (1 : Int32).toInt = 1 := rfl
  have s1 : (D - (1 : Int32)).toInt = D.toInt - 1 := by rw [own_subI _ _ (by omega), e1]
  have s2 : (i - (1 : Int32)).toInt = i.toInt - 1 := by rw [own_subI _ _ (by omega), e1]
  have hJ : (ownJ i dot).toInt = (if 0 ≤ dot.toInt ∧ dot.toInt < i.toInt then i.toInt - 1 else i.toInt) := by
    unfold ownJ
    simp only [Int32.lt_iff_toInt_lt, e0]
    by_cases q : dot.toInt < 0
    · rw [if_pos q, if_neg (by omega)]
    · rw [if_neg q]
      by_cases r : dot.toInt < i.toInt
      · rw [if_pos r, if_pos (by omega), s2]
      · rw [if_neg r, if_neg (by omega)]
  have s3 : ((D - (1 : Int32)) - ownJ i dot).toInt = D.toInt - 1 - (ownJ i dot).toInt := by
    rw [own_subI _ _ (by rw [s1, hJ]; split <;> omega), s1]
  rw [s3, hJ]
  refine ⟨rfl, ?_, ?_⟩ <;> split <;> omega
theorem own_small (y : Int64) (h : 0 ≤ y.toInt ∧ y.toInt < 65536) : (y.toInt32.toUInt32.toUInt16.toUInt32.toInt32).toInt = y.toInt := by
  have e1 : y.toInt32.toInt = y.toInt := by rw [Int64.toInt_toInt32]; exact Int.bmod_eq_of_le (by omega) (by omega)
  generalize y.toInt32 = z at *
  have hz : 0 ≤ z.toInt ∧ z.toInt < 65536 := by omega
  have e2 : z.toBitVec.toNat < 65536 ∧ z.toInt = z.toBitVec.toNat := by
    have q : z.toInt = z.toBitVec.toInt := rfl
    rw [q] at hz ⊢
    have := z.toBitVec.isLt
    rw [BitVec.toInt_eq_toNat_cond] at hz ⊢
    split at hz <;> split <;> omega
  have e3 : z.toUInt32.toUInt16.toUInt32.toInt32 = z := by
    apply Int32.toBitVec_inj.mp
    apply BitVec.eq_of_toNat_eq
    show (z.toUInt32.toUInt16.toUInt32).toNat = z.toBitVec.toNat
    have : z.toUInt32.toNat = z.toBitVec.toNat := rfl
    simp only [UInt16.toNat_toUInt32, UInt32.toNat_toUInt16, this]
    omega
  rw [e3]; exact e1
theorem own_chv (n dot D i : Int32) (v : Int64) (hR : OwnRel n dot D) (hv : 0 ≤ v.toInt) (h0 : 0 ≤ i.toInt) (h1 : i.toInt < n.toInt) (h2 : ¬ i.toInt = dot.toInt) : (ownCh i dot D v).toInt = 48 + (v.toInt / 10 ^ (((D - (1 : Int32)) - ownJ i dot).toInt).toNat) % 10 := by
  obtain ⟨j1, j2, j3⟩ := own_jx n dot D i hR h0 h1 h2
  generalize hx : ((D - (1 : Int32)) - ownJ i dot) = x at *
  have hk : x.toNatClampNeg = x.toInt.toNat := rfl
  have hp := own_pp x.toNatClampNeg (by rw [hk]; omega)
  have hpos : (0 : Int) < 10 ^ x.toInt.toNat := Int.pow_pos (by decide)
  have hq : (ownQ i dot D v).toInt = v.toInt / 10 ^ x.toInt.toNat := by
    unfold ownQ
    rw [hx]
    have hne : ownP.getD x.toNatClampNeg 0 ≠ -1 := fun q => by
      rw [q] at hp
      have : (-1 : Int64).toInt = -1 := rfl
      rw [this, hk] at hp; omega
    rw [hk] at hp
    exact (c_ldiv v _ _ hp hne).1 hv
  have hq0 : 0 ≤ (ownQ i dot D v).toInt := by rw [hq]; exact Int.ediv_nonneg hv (Int.le_of_lt hpos)
  have hr : (ownQ i dot D v - (ownQ i dot D v / (10 : Int64)) * (10 : Int64)).toInt = (v.toInt / 10 ^ x.toInt.toNat) % 10 := by
    rw [(c_lrem (ownQ i dot D v) 10 10 rfl).1 hq0, hq]
  have hs : ((48 : Int64) + (ownQ i dot D v - (ownQ i dot D v / (10 : Int64)) * (10 : Int64))).toInt = 48 + (v.toInt / 10 ^ x.toInt.toNat) % 10 := by
    have e48 : (48 : Int64).toInt = 48 := rfl
    rw [Int64.toInt_add, hr, e48]
    exact Int.bmod_eq_of_le (by omega) (by omega)
  unfold ownCh
  rw [if_neg (fun q => h2 (by rw [q]))]
  rw [own_small _ (by rw [hs]; omega), hs]
theorem own_fold (n dot D : Int32) (v : Int64) (xs : List Int32) (hR : OwnRel n dot D) (hv : 0 ≤ v.toInt ∧ v.toInt < 10 ^ 18) (hx : ∀ j, j < n.toNatClampNeg → xs.getD j 0 = ownCh (Int32.ofNat j) dot D v) (k : Nat) (hk : k ≤ n.toNatClampNeg) :
    ∃ m : Nat, (m : Int) = (if 0 ≤ dot.toInt ∧ dot.toInt < k then (k : Int) - 1 else k) ∧ (m : Int) ≤ D.toInt ∧ (ownFold xs k).toInt = ((v.toInt.toNat / 10 ^ (D.toInt.toNat - m)) % 10 ^ m : Nat) := by
  have hn : (n.toNatClampNeg : Int) = n.toInt := by have := hR.1; simp only [Int32.toNatClampNeg]; omega
  obtain ⟨g1, g2, g3⟩ := id hR
  induction k with
  | zero => exact ⟨0, by rw [if_neg (by omega)], by omega, by simp [ownFold, Nat.mod_one]⟩
  | succ k ih =>
    obtain ⟨m, m1, m2, m3⟩ := ih (by omega)
    clear ih
    have ek : (Int32.ofNat k).toInt = k := len_toInt (n := k) (by omega)
    have hxk := hx k (by omega)
    have hF : ownFold xs (k + 1) = (if xs.getD k 0 = (46 : Int32) then ownFold xs k else (ownFold xs k * (10 : Int64)) + (xs.getD k 0 - (48 : Int32)).toInt64) := rfl
    rw [hxk] at hF
    by_cases q : (k : Int) = dot.toInt
    · have hch : ownCh (Int32.ofNat k) dot D v = 46 := by
        unfold ownCh; rw [if_pos (Int32.toInt_inj.mp (by rw [ek]; exact q))]
      rw [hch, if_pos rfl] at hF
      refine ⟨m, ?_, m2, by rw [hF]; exact m3⟩
      rw [m1, if_neg (by omega), if_pos (by omega)]; omega
    · have hcv := own_chv n dot D (Int32.ofNat k) v hR hv.1 (by omega) (by omega) (by rw [ek]; exact q)
      obtain ⟨j1, j2, j3⟩ := own_jx n dot D (Int32.ofNat k) hR (by omega) (by omega) (by rw [ek]; exact q)
      rw [ek] at j1
      generalize hcc : ownCh (Int32.ofNat k) dot D v = cc at *
      generalize hxx : ((D - (1 : Int32)) - ownJ (Int32.ofNat k) dot).toInt = x at *
      have hxm : x = D.toInt - 1 - m := by rw [j1, m1]
      have hd0 := Int.emod_nonneg (v.toInt / 10 ^ x.toNat) (show (10 : Int) ≠ 0 by decide)
      have hd1 := Int.emod_lt_of_pos (v.toInt / 10 ^ x.toNat) (show (0 : Int) < 10 by decide)
      have e46 : (46 : Int32).toInt = 46 := rfl
      have e48 : (48 : Int32).toInt = 48 := rfl
      have e10 : (10 : Int64).toInt = 10 := rfl
      have hne : ¬ cc = (46 : Int32) := fun z => by rw [z, e46] at hcv; omega
      rw [if_neg hne] at hF
      have hm17 : m ≤ 17 := by omega
      have hsub : (cc - (48 : Int32)).toInt64.toInt = (v.toInt / 10 ^ x.toNat) % 10 := by
        rw [Int32.toInt_toInt64, own_subI _ _ (by rw [e48]; omega), hcv, e48]; omega
      have hNat : (v.toInt / 10 ^ x.toNat) % 10 = ((v.toInt.toNat / 10 ^ x.toNat) % 10 : Nat) := by
        have : v.toInt = (v.toInt.toNat : Int) := by omega
        rw [this]; simp
      have hlt : (v.toInt.toNat / 10 ^ (D.toInt.toNat - m)) % 10 ^ m < 10 ^ 17 := by
        refine Nat.lt_of_lt_of_le (Nat.mod_lt _ (Nat.pow_pos (by decide))) (Nat.pow_le_pow_right (by decide) hm17)
      have e17 : (10 : Nat) ^ 17 = 100000000000000000 := by decide
      have hmul : (ownFold xs k * (10 : Int64)).toInt = (ownFold xs k).toInt * 10 := by
        rw [Int64.toInt_mul, e10]; exact Int.bmod_eq_of_le (by omega) (by omega)
      refine ⟨m + 1, ?_, by omega, ?_⟩
      · by_cases r : 0 ≤ dot.toInt ∧ dot.toInt < k
        · rw [if_pos r] at m1; rw [if_pos (by omega)]; omega
        · rw [if_neg r] at m1; rw [if_neg (by omega)]; omega
      · rw [hF, Int64.toInt_add, hmul, hsub, hNat, m3]
        have hxD : D.toInt.toNat - (m + 1) = x.toNat := by omega
        have hxD' : D.toInt.toNat - m = x.toNat + 1 := by omega
        rw [hxD, hxD']
        have h1 : v.toInt.toNat / 10 ^ (x.toNat + 1) = v.toInt.toNat / 10 ^ x.toNat / 10 := by
          rw [Nat.div_div_eq_div_mul, Nat.pow_succ]
        have h2 : (v.toInt.toNat / 10 ^ x.toNat) % 10 ^ (m + 1) = (v.toInt.toNat / 10 ^ x.toNat) % 10 + 10 * (v.toInt.toNat / 10 ^ x.toNat / 10 % 10 ^ m) := by
          rw [Nat.pow_succ, Nat.mul_comm (10 ^ m) 10, Nat.mod_mul]
        rw [hxD'] at hlt
        rw [h1] at hlt ⊢
        rw [h2]
        generalize v.toInt.toNat / 10 ^ x.toNat / 10 % 10 ^ m = A at *
        generalize v.toInt.toNat / 10 ^ x.toNat % 10 = B at *
        have : ((A : Int) * 10 + B).bmod (2 ^ 64) = (A : Int) * 10 + B := Int.bmod_eq_of_le (by omega) (by omega)
        rw [this]; omega
theorem own_dfin (n dot D : Int32) (v : Int64) (xs : List Int32) (hR : OwnRel n dot D) (hv : 0 ≤ v.toInt ∧ v.toInt < 10 ^ 18) (hx : ∀ j, j < n.toNatClampNeg → xs.getD j 0 = ownCh (Int32.ofNat j) dot D v) :
    ownFold xs n.toNatClampNeg = v - (v / ownP.getD D.toNatClampNeg 0) * ownP.getD D.toNatClampNeg 0 := by
  obtain ⟨m, m1, m2, m3⟩ := own_fold n dot D v xs hR hv hx n.toNatClampNeg (Nat.le_refl _)
  obtain ⟨g1, g2, g3⟩ := id hR
  have hn : (n.toNatClampNeg : Int) = n.toInt := by simp only [Int32.toNatClampNeg]; omega
  have hmD : (m : Int) = D.toInt := by
    rw [m1]
    rcases g3 with g | g
    · rw [if_neg (by omega)]; omega
    · rw [if_pos (by omega)]; omega
  have hD : D.toNatClampNeg = m := by simp only [Int32.toNatClampNeg]; omega
  have hp := own_pp D.toNatClampNeg (by omega)
  apply Int64.toInt_inj.mp
  rw [(c_lrem v _ _ hp).1 hv.1, m3]
  have e : D.toInt.toNat - m = 0 := by omega
  rw [e, Nat.pow_zero, Nat.div_one, hD]
  have : v.toInt = (v.toInt.toNat : Int) := by omega
  rw [this]; simp
theorem own_and (x m : Int32) (hm : 0 ≤ m.toInt) : 0 ≤ (x &&& m).toInt ∧ (x &&& m).toInt ≤ m.toInt := by
  have e1 : m.toInt = (m.toBitVec.toNat : Int) := by
    show m.toBitVec.toInt = _
    have q : 0 ≤ m.toBitVec.toInt := hm
    have := m.toBitVec.isLt
    rw [BitVec.toInt_eq_toNat_cond] at q ⊢
    split at q <;> split <;> omega
  have h1 : (x &&& m).toBitVec.toNat ≤ m.toBitVec.toNat := by
    rw [Int32.toBitVec_and, BitVec.toNat_and]; exact Nat.and_le_right
  have h3 : m.toInt < 2147483648 := m.toInt_lt
  have e2 : (x &&& m).toInt = ((x &&& m).toBitVec.toNat : Int) := by
    show (x &&& m).toBitVec.toInt = _
    rw [BitVec.toInt_eq_toNat_cond]
    split <;> omega
  omega
theorem own_rel (x y f L dot n D : Int32) (hL : L = ((x &&& (2147483647 : Int32)) % (20 : Int32))) (hdot : dot = (if f = (0 : Int32) then (-1 : Int32) else (if (0 : Int32) < L then ((y &&& (2147483647 : Int32)) % L) else (-1 : Int32))))
    (hn : n = (if dot < (0 : Int32) then (if L = (19 : Int32) then (18 : Int32) else L) else L)) (hD : D = (if dot < (0 : Int32) then n else (n - (1 : Int32)))) : OwnRel n dot D := by
  have e0 : (0 : Int32).toInt = 0 := rfl
  have e1 : (1 : Int32).toInt = 1 := rfl
  have em : (-1 : Int32).toInt = -1 := rfl
  have e18 : (18 : Int32).toInt = 18 := rfl
  have e19 : (19 : Int32).toInt = 19 := rfl
  have h1 := (own_and x 2147483647 (by decide)).1
  have h2 := (c_irem (x &&& (2147483647 : Int32)) 20 20 rfl).1 h1
  rw [← hL] at h2
  have hL0 : 0 ≤ L.toInt ∧ L.toInt < 20 := by rw [h2]; exact ⟨Int.emod_nonneg _ (by decide), Int.emod_lt_of_pos _ (by decide)⟩
  have hdr : dot.toInt = -1 ∨ (0 ≤ dot.toInt ∧ dot.toInt < L.toInt) := by
    rw [hdot]
    by_cases q : f = 0
    · rw [if_pos q]; exact Or.inl em
    · rw [if_neg q]
      by_cases r : (0 : Int32) < L
      · rw [if_pos r]
        rw [Int32.lt_iff_toInt_lt, e0] at r
        have h3 := (own_and y 2147483647 (by decide)).1
        have h4 := (c_irem (y &&& (2147483647 : Int32)) L L.toInt rfl).1 h3
        rw [h4]
        exact Or.inr ⟨Int.emod_nonneg _ (by omega), Int.emod_lt_of_pos _ (by omega)⟩
      · rw [if_neg r]; exact Or.inl em
  unfold OwnRel
  by_cases q : dot < 0
  · rw [if_pos q] at hn hD
    rw [Int32.lt_iff_toInt_lt, e0] at q
    rw [hD, hn]
    by_cases r : L = 19
    · rw [if_pos r, e18]; omega
    · rw [if_neg r]
      have : ¬ L.toInt = 19 := fun z => r (Int32.toInt_inj.mp (z.trans e19.symm))
      omega
  · rw [if_neg q] at hn hD
    rw [Int32.lt_iff_toInt_lt, e0] at q
    rw [hD, hn, own_subI _ _ (by rw [e1]; omega), e1]
    omega
theorem own_hix (n dot D i : Int32) (xs : List Int32) (hR : OwnRel n dot D) (hi : ¬ i < (0 : Int32)) (hl : xs.length = n.toNatClampNeg) : i < (Int32.ofNat xs.length) → ¬ i = dot → ¬ (((D - (1 : Int32)) - ownJ i dot) < (0 : Int32)) ∧ ((D - (1 : Int32)) - ownJ i dot).toNatClampNeg < 19 := by
  intro h1 h2
  have e0 : (0 : Int32).toInt = 0 := rfl
  have hn : (n.toNatClampNeg : Int) = n.toInt := by have := hR.1; simp only [Int32.toNatClampNeg]; omega
  have hx : (Int32.ofNat xs.length).toInt = n.toInt := by rw [hl]; rw [← hn]; exact len_toInt (by have := hR.2.1; omega)
  rw [Int32.lt_iff_toInt_lt] at h1 hi
  obtain ⟨j1, j2, j3⟩ := own_jx n dot D i hR (by omega) (by omega) (fun z => h2 (Int32.toInt_inj.mp z))
  rw [Int32.lt_iff_toInt_lt, e0]
  simp only [Int32.toNatClampNeg]
  omega
theorem own_li {i : Int32} {xs : List Int32} (hi : ¬ i < (0 : Int32)) (hl : xs.length ≤ 19) (h : i < (Int32.ofNat xs.length)) : i.toNatClampNeg < xs.length := by
  have e0 : (0 : Int32).toInt = 0 := rfl
  have hx : (Int32.ofNat xs.length).toInt = xs.length := len_toInt (by omega)
  rw [Int32.lt_iff_toInt_lt] at h hi
  simp only [Int32.toNatClampNeg]
  omega
theorem own_lj {i : Int32} {xs : List Int32} (hi : ¬ i < (0 : Int32)) (hl : xs.length ≤ 19) (h : ¬ i < (Int32.ofNat xs.length)) : xs.length ≤ i.toNatClampNeg := by
  have e0 : (0 : Int32).toInt = 0 := rfl
  have hx : (Int32.ofNat xs.length).toInt = xs.length := len_toInt (by omega)
  rw [Int32.lt_iff_toInt_lt] at h hi
  simp only [Int32.toNatClampNeg]
  omega
theorem own_pne {k : Nat} (hk : k < 19) : ownP.getD k 0 ≠ 0 := fun q => by
  have := own_pp k hk
  rw [q] at this
  have h0 : (0 : Int64).toInt = 0 := rfl
  have : (0 : Int) < 10 ^ k := Int.pow_pos (by decide)
  omega
theorem own_rl (n dot D : Int32) (hR : OwnRel n dot D) : ¬ n < (0 : Int32) ∧ n.toNatClampNeg ≤ 19 ∧ ¬ D < (0 : Int32) ∧ D.toNatClampNeg < 19 := by
  have e0 : (0 : Int32).toInt = 0 := rfl
  obtain ⟨g1, g2, g3⟩ := hR
  simp only [Int32.lt_iff_toInt_lt, e0, Int32.toNatClampNeg]
  omega
theorem own_vr (a : Int64) (v : Int64) (h : v = ((a &&& (9223372036854775807 : Int64)) - ((a &&& (9223372036854775807 : Int64)) / (1000000000000000000 : Int64)) * (1000000000000000000 : Int64))) : 0 ≤ v.toInt ∧ v.toInt < 10 ^ 18 := by
  have h1 : 0 ≤ (a &&& (9223372036854775807 : Int64)).toInt := (c_andSL a _).2.2 (by decide)
  have h2 := (c_lrem (a &&& (9223372036854775807 : Int64)) 1000000000000000000 1000000000000000000 rfl).1 h1
  rw [h, h2]
  exact ⟨Int.emod_nonneg _ (by decide), by have := Int.emod_lt_of_pos (a &&& (9223372036854775807 : Int64)).toInt (show (0 : Int) < 1000000000000000000 by decide); omega⟩
theorem own_last (n dot D : Int32) (v : Int64) (ys : List Int32) (r : Int64) (hR : OwnRel n dot D) (hv : 0 ≤ v.toInt ∧ v.toInt < 10 ^ 18) (hln : ys.length = n.toNatClampNeg) (hfl : ys = ownFill n.toNatClampNeg dot D v 19) (hr : r = ownFold ys ys.length) : r = (v - (v / (ownP.getD D.toNatClampNeg 0)) * (ownP.getD D.toNatClampNeg 0)) := by
  have h19 := (own_rl n dot D hR).2.1
  have h := own_dfin n dot D v ys hR hv (fun j hj => by
    have q := own_fg n.toNatClampNeg dot D v 19 j (by omega) hj
    rw [← hfl] at q
    exact q)
  rw [hr, hln]
  exact h
theorem own_fs (n : Nat) (dot D : Int32) (v : Int64) (i : Nat) (x : Int32) (hx : x = Int32.ofNat i) (hi : x.toNatClampNeg = i) : (ownFill n dot D v i).set x.toNatClampNeg (ownCh x dot D v) = ownFill n dot D v (i + 1) := by
  rw [hi, ownFill, hx]
theorem own_ne0 {x : Int32} (h : (0 : Int32) < x) : x ≠ 0 := fun q => by
  rw [q] at h; exact absurd h (by decide)
theorem own_d1_0 : decode method_3_code 0 = .ok (.iload_n 1, 1) := by decide +kernel
theorem own_d1_1 : decode method_3_code 1 = .ok (.aload_n 0, 1) := by decide +kernel
theorem own_d1_2 : decode method_3_code 2 = .ok (.arraylength, 1) := by decide +kernel
theorem own_d1_3 : decode method_3_code 3 = .ok (.if_icmp .lt 4, 3) := by decide +kernel
theorem own_d1_6 : decode method_3_code 6 = .ok (.return_, 1) := by decide +kernel
theorem own_d1_7 : decode method_3_code 7 = .ok (.iload_n 1, 1) := by decide +kernel
theorem own_d1_8 : decode method_3_code 8 = .ok (.iload_n 2, 1) := by decide +kernel
theorem own_d1_9 : decode method_3_code 9 = .ok (.if_icmp .ne 9, 3) := by decide +kernel
theorem own_d1_12 : decode method_3_code 12 = .ok (.aload_n 0, 1) := by decide +kernel
theorem own_d1_13 : decode method_3_code 13 = .ok (.iload_n 1, 1) := by decide +kernel
theorem own_d1_14 : decode method_3_code 14 = .ok (.bipush 46, 2) := by decide +kernel
theorem own_d1_16 : decode method_3_code 16 = .ok (.castore, 1) := by decide +kernel
theorem own_d1_17 : decode method_3_code 17 = .ok (.return_, 1) := by decide +kernel
theorem own_d1_18 : decode method_3_code 18 = .ok (.iload_n 2, 1) := by decide +kernel
theorem own_d1_19 : decode method_3_code 19 = .ok (.ifCond .lt 14, 3) := by decide +kernel
theorem own_d1_22 : decode method_3_code 22 = .ok (.iload_n 1, 1) := by decide +kernel
theorem own_d1_23 : decode method_3_code 23 = .ok (.iload_n 2, 1) := by decide +kernel
theorem own_d1_24 : decode method_3_code 24 = .ok (.if_icmp .le 9, 3) := by decide +kernel
theorem own_d1_27 : decode method_3_code 27 = .ok (.iload_n 1, 1) := by decide +kernel
theorem own_d1_28 : decode method_3_code 28 = .ok (.iconst 1, 1) := by decide +kernel
theorem own_d1_29 : decode method_3_code 29 = .ok (.isub, 1) := by decide +kernel
theorem own_d1_30 : decode method_3_code 30 = .ok (.goto 4, 3) := by decide +kernel
theorem own_d1_33 : decode method_3_code 33 = .ok (.iload_n 1, 1) := by decide +kernel
theorem own_d1_34 : decode method_3_code 34 = .ok (.istore 7, 2) := by decide +kernel
theorem own_d1_36 : decode method_3_code 36 = .ok (.aload_n 0, 1) := by decide +kernel
theorem own_d1_37 : decode method_3_code 37 = .ok (.iload_n 1, 1) := by decide +kernel
theorem own_d1_38 : decode method_3_code 38 = .ok (.ldc2_w 60, 3) := by decide +kernel
theorem own_d1_41 : decode method_3_code 41 = .ok (.lload 4, 2) := by decide +kernel
theorem own_d1_43 : decode method_3_code 43 = .ok (.aload 6, 2) := by decide +kernel
theorem own_d1_45 : decode method_3_code 45 = .ok (.iload_n 3, 1) := by decide +kernel
theorem own_d1_46 : decode method_3_code 46 = .ok (.iconst 1, 1) := by decide +kernel
theorem own_d1_47 : decode method_3_code 47 = .ok (.isub, 1) := by decide +kernel
theorem own_d1_48 : decode method_3_code 48 = .ok (.iload 7, 2) := by decide +kernel
theorem own_d1_50 : decode method_3_code 50 = .ok (.isub, 1) := by decide +kernel
theorem own_d1_51 : decode method_3_code 51 = .ok (.laload, 1) := by decide +kernel
theorem own_d1_52 : decode method_3_code 52 = .ok (.ldiv, 1) := by decide +kernel
theorem own_d1_53 : decode method_3_code 53 = .ok (.ldc2_w 7, 3) := by decide +kernel
theorem own_d1_56 : decode method_3_code 56 = .ok (.lrem, 1) := by decide +kernel
theorem own_d1_57 : decode method_3_code 57 = .ok (.ladd, 1) := by decide +kernel
theorem own_d1_58 : decode method_3_code 58 = .ok (.l2i, 1) := by decide +kernel
theorem own_d1_59 : decode method_3_code 59 = .ok (.i2c, 1) := by decide +kernel
theorem own_d1_60 : decode method_3_code 60 = .ok (.castore, 1) := by decide +kernel
theorem own_d1_61 : decode method_3_code 61 = .ok (.return_, 1) := by decide +kernel
theorem own_ef1 (m : MethodId) (x0 : Addr) (x1 : Int32) (x2 : Int32) (x3 : Int32) (x4 : Int64) (x5 : Addr) : entryFrame m #[(.ref x0), (.int x1), (.int x2), (.int x3), (.long x4), (.ref x5)] 8 = mkF m 0 #[.val (.ref x0), .val (.int x1), .val (.int x2), .val (.int x3), .val (.long x4), .second, .val (.ref x5), .unset] [] := by first | (simp [entryFrame, mkF, argsToLocals, Value.category]; done) | rfl
theorem own_pn1 : plainFor (⟨"com/example/outcry/outcry/market/CharactersDigitsValuePinLaw", "put", "([CIIIJ[J)V"⟩ : MethodName) = true := by first | exact plainFor_of_name (by first | (simp [plainName, overriddenIn]; done) | decide +kernel) | exact Jvm.Free.JP.mathPlain rfl (by decide +kernel)
set_option maxRecDepth 65536 in
set_option maxHeartbeats 40000000 in
theorem own_rm1 (l : Launch) (Z : State) (a0 : Array Value) (hw : ∀ d ∈ tables_1, d.before a0 Z = true) (a1 : Addr) (b1 : Addr) (xs : List Int32) (p1 : Int32) (p2 : Int32) (p3 : Int32) (q4 : Int64) (h0 : Heap) (n0 : Nat) (Z0 : n0 ≤ h0.size) (V_a1 : OwnAr Z h0 a1 .char (xs.map Value.int)) (V_b1 : OwnAr Z h0 b1 .long [(.long (1 : Int64)), (.long (10 : Int64)), (.long (100 : Int64)), (.long (1000 : Int64)), (.long (10000 : Int64)), (.long (100000 : Int64)), (.long (1000000 : Int64)), (.long (10000000 : Int64)), (.long (100000000 : Int64)), (.long (1000000000 : Int64)), (.long (10000000000 : Int64)), (.long (100000000000 : Int64)), (.long (1000000000000 : Int64)), (.long (10000000000000 : Int64)), (.long (100000000000000 : Int64)), (.long (1000000000000000 : Int64)), (.long (10000000000000000 : Int64)), (.long (100000000000000000 : Int64)), (.long (1000000000000000000 : Int64))]) (g_a1 : n0 ≤ a1) (ne_b1_a1 : b1 ≠ a1) (hi : ¬ p1 < (0 : Int32)) (hlen : xs.length ≤ 19) (hix : p1 < (Int32.ofNat xs.length) → ¬ p1 = p2 → ¬ (((p3 - (1 : Int32)) - ownJ p1 p2) < (0 : Int32)) ∧ ((p3 - (1 : Int32)) - ownJ p1 p2).toNatClampNeg < 19) :
    OwnMet l Z (⟨"com/example/outcry/outcry/market/CharactersDigitsValuePinLaw", "put", "([CIIIJ[J)V"⟩ : MethodName) method_3_code 8 none ({ frames := 0, cells := 0, slots := 0, locals := 0 } : Room) #[(.ref a1), (.int p1), (.int p2), (.int p3), (.long q4), (.ref b1)] h0 n0 (fun v h => ∃ (ys : List Int32), v = none ∧ (ys = xs.set (p1).toNatClampNeg (ownCh p1 p2 p3 q4)) ∧ Keep h0 h [a1] ∧ OwnAr Z h a1 .char (ys.map Value.int)) := by
  refine own_body own_pn1 ?_
  intro p e s m below meth c s₁ RR X0
  refine own_enter (own_ef1 m a1 p1 p2 p3 q4 b1) ?_
  refine own_iloadN X0 own_d1_0 (pc' := 1) rfl rfl ?_
  refine own_aloadN X0 own_d1_1 (pc' := 2) rfl rfl rfl ?_
  refine own_arraylength X0 own_d1_2 V_a1 (n := (Int32.ofNat xs.length)) (by rw [List.length_map]) (pc' := 3) rfl ?_
  by_cases hc3 : p1 < (Int32.ofNat xs.length)
  · refine own_icY X0 own_d1_3 (tlt (hc3)).1 (pc' := 7) (by decide) (by decide) ?_
    refine own_iloadN X0 own_d1_7 (pc' := 8) rfl rfl ?_
    refine own_iloadN X0 own_d1_8 (pc' := 9) rfl rfl ?_
    by_cases hc9 : p1 = p2
    · refine own_icN X0 own_d1_9 (teq (hc9)).2 (pc' := 12) rfl ?_
      refine own_aloadN X0 own_d1_12 (pc' := 13) rfl rfl rfl ?_
      refine own_iloadN X0 own_d1_13 (pc' := 14) rfl rfl ?_
      refine own_bipush X0 own_d1_14 (pc' := 16) rfl (v := (46 : Int32)) (by decide) ?_
      refine own_castore X0 own_d1_16 V_a1 hi (by rw [List.length_map]; exact (own_li hi hlen hc3)) g_a1 (pc' := 17) rfl ?_
      intro T1 h1 X1 W1 B1
      have V_b1_1 := (V_b1).other W1 ne_b1_a1
      have Z1 : n0 ≤ h1.size := Nat.le_trans Z0 (Nat.le_of_eq W1.size.symm)
      have V_a1_1 : OwnAr Z h1 a1 .char ((xs.set (p1).toNatClampNeg ((46 : Int32).toUInt32.toUInt16.toUInt32.toInt32)).map Value.int) := (by rw [List.map_set]; exact B1)
      have K1 := ((Keep.refl h0 [a1])).wr W1 (Or.inl (List.mem_of_getElem? (i := 0) rfl))
      exact own_retV X1 own_d1_17 ⟨((xs.set (p1).toNatClampNeg ((46 : Int32).toUInt32.toUInt16.toUInt32.toInt32))), rfl, (by unfold ownCh; rw [if_pos hc9]; rfl), K1, V_a1_1⟩ (by decide) (by decide)
    · refine own_icY X0 own_d1_9 (feq (hc9)).2 (pc' := 18) (by decide) (by decide) ?_
      refine own_iloadN X0 own_d1_18 (pc' := 19) rfl rfl ?_
      have j34_2 : ∀ (f34_s0 : Int32), f34_s0 = (if p2 < (0 : Int32) then p1 else (if p2 < p1 then (p1 - (1 : Int32)) else p1)) → OwnGo p e below (s₁.setTop (mkF m 34 #[.val (.ref a1), .val (.int p1), .val (.int p2), .val (.int p3), .val (.long q4), .second, .val (.ref b1), .unset] [(.int f34_s0)])) RR := by
        intro f34_s0 hf34_s0
        refine own_istore X0 own_d1_34 (pc' := 36) rfl (l' := #[.val (.ref a1), .val (.int p1), .val (.int p2), .val (.int p3), .val (.long q4), .second, .val (.ref b1), .val (.int f34_s0)]) rfl ?_
        refine own_aloadN X0 own_d1_36 (pc' := 37) rfl rfl rfl ?_
        refine own_iloadN X0 own_d1_37 (pc' := 38) rfl rfl ?_
        refine own_ldc2Long X0 own_d1_38 (pc' := 41) rfl (hw _ (List.mem_of_getElem? (i := 26) rfl)) ?_
        refine own_lload X0 own_d1_41 (pc' := 43) rfl rfl ?_
        refine own_aload X0 own_d1_43 (pc' := 45) rfl rfl rfl ?_
        refine own_iloadN X0 own_d1_45 (pc' := 46) rfl rfl ?_
        refine own_iconst X0 own_d1_46 (pc' := 47) rfl (v := (1 : Int32)) (by decide) ?_
        refine own_isub X0 own_d1_47 (pc' := 48) rfl ?_
        refine own_iload X0 own_d1_48 (pc' := 50) rfl rfl ?_
        refine own_isub X0 own_d1_50 (pc' := 51) rfl ?_
        refine own_laload X0 own_d1_51 V_b1 (by rw [hf34_s0]; exact (hix hc3 hc9).1) (v := (.long (ownP.getD ((p3 - (1 : Int32)) - f34_s0).toNatClampNeg 0))) (own_getJ (xs := ownP) (by rw [hf34_s0]; exact (hix hc3 hc9).2)) (pc' := 52) rfl ?_
        refine own_ldiv X0 own_d1_52 (pc' := 53) rfl (own_pne (by rw [hf34_s0]; exact (hix hc3 hc9).2)) ?_
        refine own_ldc2Long X0 own_d1_53 (pc' := 56) rfl (hw _ (List.mem_of_getElem? (i := 1) rfl)) ?_
        refine own_lrem X0 own_d1_56 (pc' := 57) rfl (by decide) ?_
        refine own_ladd X0 own_d1_57 (pc' := 58) rfl ?_
        refine own_l2i X0 own_d1_58 (pc' := 59) rfl ?_
        refine own_i2c X0 own_d1_59 (pc' := 60) rfl ?_
        refine own_castore X0 own_d1_60 V_a1 hi (by rw [List.length_map]; exact (own_li hi hlen hc3)) g_a1 (pc' := 61) rfl ?_
        intro T3 h3 X3 W3 B3
        have V_b1_3 := (V_b1).other W3 ne_b1_a1
        have Z3 : n0 ≤ h3.size := Nat.le_trans Z0 (Nat.le_of_eq W3.size.symm)
        have V_a1_3 : OwnAr Z h3 a1 .char ((xs.set (p1).toNatClampNeg ((((((((48 : Int64) + ((q4 / (ownP.getD ((p3 - (1 : Int32)) - f34_s0).toNatClampNeg 0)) - ((q4 / (ownP.getD ((p3 - (1 : Int32)) - f34_s0).toNatClampNeg 0)) / (10 : Int64)) * (10 : Int64)))).toInt32)).toUInt32.toUInt16.toUInt32.toInt32)).toUInt32.toUInt16.toUInt32.toInt32)).map Value.int) := (by rw [List.map_set]; exact B3)
        have K3 := ((Keep.refl h0 [a1])).wr W3 (Or.inl (List.mem_of_getElem? (i := 0) rfl))
        exact own_retV X3 own_d1_61 ⟨((xs.set (p1).toNatClampNeg ((((((((48 : Int64) + ((q4 / (ownP.getD ((p3 - (1 : Int32)) - f34_s0).toNatClampNeg 0)) - ((q4 / (ownP.getD ((p3 - (1 : Int32)) - f34_s0).toNatClampNeg 0)) / (10 : Int64)) * (10 : Int64)))).toInt32)).toUInt32.toUInt16.toUInt32.toInt32)).toUInt32.toUInt16.toUInt32.toInt32))), rfl, (by rw [own_nn]; unfold ownCh ownQ; rw [if_neg hc9, hf34_s0]; first | done | rfl), K3, V_a1_3⟩ (by decide) (by decide)
      by_cases hc19 : p2 < (0 : Int32)
      · refine own_ifY X0 own_d1_19 (tlt (hc19)).1 (pc' := 33) (by decide) (by decide) ?_
        refine own_iloadN X0 own_d1_33 (pc' := 34) rfl rfl ?_
        exact j34_2 _ (by rw [if_pos hc19])
      · refine own_ifN X0 own_d1_19 (flt (hc19)).1 (pc' := 22) rfl ?_
        refine own_iloadN X0 own_d1_22 (pc' := 23) rfl rfl ?_
        refine own_iloadN X0 own_d1_23 (pc' := 24) rfl rfl ?_
        by_cases hc24 : p2 < p1
        · refine own_icN X0 own_d1_24 (tlt (hc24)).2.2.2 (pc' := 27) rfl ?_
          refine own_iloadN X0 own_d1_27 (pc' := 28) rfl rfl ?_
          refine own_iconst X0 own_d1_28 (pc' := 29) rfl (v := (1 : Int32)) (by decide) ?_
          refine own_isub X0 own_d1_29 (pc' := 30) rfl ?_
          refine own_goto X0 own_d1_30 (pc' := 34) (by decide) (by decide) ?_
          exact j34_2 _ (by rw [if_neg hc19, if_pos hc24])
        · refine own_icY X0 own_d1_24 (flt (hc24)).2.2.2 (pc' := 33) (by decide) (by decide) ?_
          refine own_iloadN X0 own_d1_33 (pc' := 34) rfl rfl ?_
          exact j34_2 _ (by rw [if_neg hc19, if_neg hc24])
  · refine own_icN X0 own_d1_3 (flt (hc3)).1 (pc' := 6) rfl ?_
    exact own_retV X0 own_d1_6 ⟨xs, rfl, ((List.set_eq_of_length_le (own_lj hi hlen hc3)).symm), (Keep.refl h0 [a1]), V_a1⟩ (by decide) (by decide)
theorem own_d2_0 : decode prog_13_method_4_code 0 = .ok (.lconst 0, 1) := by decide +kernel
theorem own_d2_1 : decode prog_13_method_4_code 1 = .ok (.lstore_n 1, 1) := by decide +kernel
theorem own_d2_2 : decode prog_13_method_4_code 2 = .ok (.aload_n 0, 1) := by decide +kernel
theorem own_d2_3 : decode prog_13_method_4_code 3 = .ok (.astore_n 3, 1) := by decide +kernel
theorem own_d2_4 : decode prog_13_method_4_code 4 = .ok (.aload_n 3, 1) := by decide +kernel
theorem own_d2_5 : decode prog_13_method_4_code 5 = .ok (.arraylength, 1) := by decide +kernel
theorem own_d2_6 : decode prog_13_method_4_code 6 = .ok (.istore 4, 2) := by decide +kernel
theorem own_d2_8 : decode prog_13_method_4_code 8 = .ok (.iconst 0, 1) := by decide +kernel
theorem own_d2_9 : decode prog_13_method_4_code 9 = .ok (.istore 5, 2) := by decide +kernel
theorem own_d2_11 : decode prog_13_method_4_code 11 = .ok (.iload 5, 2) := by decide +kernel
theorem own_d2_13 : decode prog_13_method_4_code 13 = .ok (.iload 4, 2) := by decide +kernel
theorem own_d2_15 : decode prog_13_method_4_code 15 = .ok (.if_icmp .ge 35, 3) := by decide +kernel
theorem own_d2_18 : decode prog_13_method_4_code 18 = .ok (.aload_n 3, 1) := by decide +kernel
theorem own_d2_19 : decode prog_13_method_4_code 19 = .ok (.iload 5, 2) := by decide +kernel
theorem own_d2_21 : decode prog_13_method_4_code 21 = .ok (.caload, 1) := by decide +kernel
theorem own_d2_22 : decode prog_13_method_4_code 22 = .ok (.istore 6, 2) := by decide +kernel
theorem own_d2_24 : decode prog_13_method_4_code 24 = .ok (.iload 6, 2) := by decide +kernel
theorem own_d2_26 : decode prog_13_method_4_code 26 = .ok (.bipush 46, 2) := by decide +kernel
theorem own_d2_28 : decode prog_13_method_4_code 28 = .ok (.if_icmp .eq 16, 3) := by decide +kernel
theorem own_d2_31 : decode prog_13_method_4_code 31 = .ok (.lload_n 1, 1) := by decide +kernel
theorem own_d2_32 : decode prog_13_method_4_code 32 = .ok (.ldc2_w 23, 3) := by decide +kernel
theorem own_d2_35 : decode prog_13_method_4_code 35 = .ok (.lmul, 1) := by decide +kernel
theorem own_d2_36 : decode prog_13_method_4_code 36 = .ok (.iload 6, 2) := by decide +kernel
theorem own_d2_38 : decode prog_13_method_4_code 38 = .ok (.bipush 48, 2) := by decide +kernel
theorem own_d2_40 : decode prog_13_method_4_code 40 = .ok (.isub, 1) := by decide +kernel
theorem own_d2_41 : decode prog_13_method_4_code 41 = .ok (.i2l, 1) := by decide +kernel
theorem own_d2_42 : decode prog_13_method_4_code 42 = .ok (.ladd, 1) := by decide +kernel
theorem own_d2_43 : decode prog_13_method_4_code 43 = .ok (.lstore_n 1, 1) := by decide +kernel
theorem own_d2_44 : decode prog_13_method_4_code 44 = .ok (.iinc 5 1, 3) := by decide +kernel
theorem own_d2_47 : decode prog_13_method_4_code 47 = .ok (.goto (-36), 3) := by decide +kernel
theorem own_d2_50 : decode prog_13_method_4_code 50 = .ok (.lload_n 1, 1) := by decide +kernel
theorem own_d2_51 : decode prog_13_method_4_code 51 = .ok (.lreturn, 1) := by decide +kernel
theorem own_ef2 (m : MethodId) (x0 : Addr) : entryFrame m #[(.ref x0)] 7 = mkF m 0 #[.val (.ref x0), .unset, .unset, .unset, .unset, .unset, .unset] [] := by first | (simp [entryFrame, mkF, argsToLocals, Value.category]; done) | rfl
theorem own_pn2 : plainFor (⟨"com/example/outcry/outcry/market/Characters", "digitsValue", "([C)J"⟩ : MethodName) = true := by first | exact plainFor_of_name (by first | (simp [plainName, overriddenIn]; done) | decide +kernel) | exact Jvm.Free.JP.mathPlain rfl (by decide +kernel)
set_option maxRecDepth 65536 in
set_option maxHeartbeats 40000000 in
theorem own_rm2 (l : Launch) (Z : State) (a0 : Array Value) (hw : ∀ d ∈ tables_1, d.before a0 Z = true) (a1 : Addr) (xs : List Int32) (h0 : Heap) (n0 : Nat) (Z0 : n0 ≤ h0.size) (V_a1 : OwnAr Z h0 a1 .char (xs.map Value.int)) (hlen : xs.length ≤ 19) :
    OwnMet l Z (⟨"com/example/outcry/outcry/market/Characters", "digitsValue", "([C)J"⟩ : MethodName) prog_13_method_4_code 7 (some .long) ({ frames := 0, cells := 0, slots := 0, locals := 0 } : Room) #[(.ref a1)] h0 n0 (fun v h => v = some (.long (ownFold xs xs.length)) ∧ h0 = h) := by
  refine own_body own_pn2 ?_
  intro p e s m below meth c s₁ RR X0
  refine own_enter (own_ef2 m a1) ?_
  refine own_lconst X0 own_d2_0 (pc' := 1) rfl (v := (0 : Int64)) (by decide) ?_
  refine own_lstoreN X0 own_d2_1 (pc' := 2) rfl (l' := #[.val (.ref a1), .val (.long (0 : Int64)), .second, .unset, .unset, .unset, .unset]) rfl ?_
  refine own_aloadN X0 own_d2_2 (pc' := 3) rfl rfl rfl ?_
  refine own_astoreN X0 own_d2_3 (pc' := 4) rfl rfl (l' := #[.val (.ref a1), .val (.long (0 : Int64)), .second, .val (.ref a1), .unset, .unset, .unset]) rfl ?_
  refine own_aloadN X0 own_d2_4 (pc' := 5) rfl rfl rfl ?_
  refine own_arraylength X0 own_d2_5 V_a1 (n := (Int32.ofNat xs.length)) (by rw [List.length_map]) (pc' := 6) rfl ?_
  refine own_istoreV X0 own_d2_6 (pc' := 8) rfl (l' := fun v6 => #[.val (.ref a1), .val (.long (0 : Int64)), .second, .val (.ref a1), .val (.int v6), .unset, .unset]) (fun _ => rfl) ?_
  intro v6 hv6
  refine own_iconst X0 own_d2_8 (pc' := 9) rfl (v := (0 : Int32)) (by decide) ?_
  refine own_istore X0 own_d2_9 (pc' := 11) rfl (l' := #[.val (.ref a1), .val (.long (0 : Int64)), .second, .val (.ref a1), .val (.int v6), .val (.int (0 : Int32)), .unset]) rfl ?_
  have loop11 : ∀ (d k11 : Nat) (Tl11 : State), d + k11 = xs.length → OwnAt X0 Tl11 → ∀ (sl11_6 : Slot), (sl11_6 = .unset ∨ ∃ w, sl11_6 = .val (.int w)) → OwnGo p e below (Tl11.setTop (mkF m 11 #[.val (.ref a1), .val (.long (ownFold xs k11)), .second, .val (.ref a1), .val (.int v6), .val (.int (Int32.ofNat k11)), sl11_6] [])) RR := by
    intro d
    induction d with
    | zero =>
      intro k11 Tl11 hdk11 Xl11 sl11_6 hsl11_6
      obtain rfl : k11 = xs.length := by omega
      refine own_iload Xl11 own_d2_11 (pc' := 13) rfl rfl ?_
      refine own_iload Xl11 own_d2_13 (pc' := 15) rfl rfl ?_
      refine own_icY Xl11 own_d2_15 (flt ((by rw [hv6]; exact Int32.lt_irrefl : ¬ ((Int32.ofNat xs.length) < v6)))).2.1 (pc' := 50) (by decide) (by decide) ?_
      refine own_lloadN Xl11 own_d2_50 (pc' := 51) rfl rfl ?_
      exact own_retJ Xl11 own_d2_51 ⟨rfl, rfl⟩ (by decide) (by decide)
    | succ d ih11 =>
      intro k11 Tl11 hdk11 Xl11 sl11_6 hsl11_6
      have hk11 : k11 < xs.length := by omega
      refine own_iload Xl11 own_d2_11 (pc' := 13) rfl rfl ?_
      refine own_iload Xl11 own_d2_13 (pc' := 15) rfl rfl ?_
      refine own_icN Xl11 own_d2_15 (tlt ((by rw [hv6]; exact (own_ix hk11 (by omega)).2.2 : (Int32.ofNat k11) < v6))).2.1 (pc' := 18) rfl ?_
      refine own_aloadN Xl11 own_d2_18 (pc' := 19) rfl rfl rfl ?_
      refine own_iload Xl11 own_d2_19 (pc' := 21) rfl rfl ?_
      refine own_caload Xl11 own_d2_21 V_a1 (own_ix hk11 (by omega)).1 (v := (.int (xs.getD k11 0))) (by rw [(own_ix hk11 (by omega)).2.1]; exact own_getI hk11) (pc' := 22) rfl ?_
      refine own_istoreV Xl11 own_d2_22 (pc' := 24) rfl (l' := fun v22 => #[.val (.ref a1), .val (.long (ownFold xs k11)), .second, .val (.ref a1), .val (.int v6), .val (.int (Int32.ofNat k11)), .val (.int v22)]) (fun _ => (by rcases hsl11_6 with rfl | ⟨w, rfl⟩ <;> rfl)) ?_
      intro v22 hv22
      refine own_iload Xl11 own_d2_24 (pc' := 26) rfl rfl ?_
      refine own_bipush Xl11 own_d2_26 (pc' := 28) rfl (v := (46 : Int32)) (by decide) ?_
      have j44_1 : ∀ (f44_1 : Int64), f44_1 = (if v22 = (46 : Int32) then (ownFold xs k11) else (((ownFold xs k11) * (10 : Int64)) + (((v22 - (48 : Int32))).toInt64))) → OwnGo p e below (Tl11.setTop (mkF m 44 #[.val (.ref a1), .val (.long f44_1), .second, .val (.ref a1), .val (.int v6), .val (.int (Int32.ofNat k11)), .val (.int v22)] [])) RR := by
        intro f44_1 hf44_1
        refine own_iinc Xl11 own_d2_44 (pc' := 47) rfl rfl (y := (Int32.ofNat (k11 + 1))) (own_ofs _) (l' := #[.val (.ref a1), .val (.long f44_1), .second, .val (.ref a1), .val (.int v6), .val (.int (Int32.ofNat (k11 + 1))), .val (.int v22)]) rfl ?_
        refine own_goto Xl11 own_d2_47 (pc' := 11) (by decide) (by decide) ?_
        obtain rfl : f44_1 = ownFold xs (k11 + 1) := by rw [hf44_1, hv22]; rfl
        exact ih11 (k11 + 1) _ (by omega) Xl11 _ (Or.inr ⟨_, rfl⟩)
      by_cases hc28 : v22 = (46 : Int32)
      · refine own_icY Xl11 own_d2_28 (teq (hc28)).1 (pc' := 44) (by decide) (by decide) ?_
        exact j44_1 _ (by rw [if_pos hc28])
      · refine own_icN Xl11 own_d2_28 (feq (hc28)).1 (pc' := 31) rfl ?_
        refine own_lloadN Xl11 own_d2_31 (pc' := 32) rfl rfl ?_
        refine own_ldc2Long Xl11 own_d2_32 (pc' := 35) rfl (hw _ (List.mem_of_getElem? (i := 31) rfl)) ?_
        refine own_lmul Xl11 own_d2_35 (pc' := 36) rfl ?_
        refine own_iload Xl11 own_d2_36 (pc' := 38) rfl rfl ?_
        refine own_bipush Xl11 own_d2_38 (pc' := 40) rfl (v := (48 : Int32)) (by decide) ?_
        refine own_isub Xl11 own_d2_40 (pc' := 41) rfl ?_
        refine own_i2l Xl11 own_d2_41 (pc' := 42) rfl ?_
        refine own_ladd Xl11 own_d2_42 (pc' := 43) rfl ?_
        refine own_lstoreN Xl11 own_d2_43 (pc' := 44) rfl (l' := #[.val (.ref a1), .val (.long (((ownFold xs k11) * (10 : Int64)) + (((v22 - (48 : Int32))).toInt64))), .second, .val (.ref a1), .val (.int v6), .val (.int (Int32.ofNat k11)), .val (.int v22)]) rfl ?_
        exact j44_1 _ (by rw [if_neg hc28])
  exact loop11 xs.length 0 _ rfl X0 _ (Or.inl rfl)
theorem own_pd0 : parseMethodDescriptor "([CIIIJ[J)V" = some ⟨[(.array .char), .int, .int, .int, .long, (.array .long)], none⟩ := by decide +kernel
theorem own_pd1 : parseMethodDescriptor "([C)J" = some ⟨[(.array .char)], some .long⟩ := by decide +kernel
theorem own_ef0 (m : MethodId) (x0 : Int64) (x1 : Int32) (x2 : Int32) (x3 : Int32) : entryFrame m #[(.long x0), (.int x1), (.int x2), (.int x3)] maxLocals = mkF m 0 #[.val (.long x0), .second, .val (.int x1), .val (.int x2), .val (.int x3), .unset, .unset, .unset, .unset, .unset, .unset, .unset] [] := by first | (simp [entryFrame, mkF, argsToLocals, Value.category, maxLocals]; done) | rfl
theorem own_pn0 : plainFor x = true := by first | exact plainFor_of_name (by first | (simp [plainName, overriddenIn]; done) | decide +kernel) | exact Jvm.Free.JP.mathPlain rfl (by decide +kernel)
set_option maxRecDepth 65536 in
set_option maxHeartbeats 40000000 in
theorem own_rm0 (l : Launch) (Z : State) (a0 : Array Value) (hw : ∀ d ∈ tables_1, d.before a0 Z = true) (q1 : Int64) (p2 : Int32) (p3 : Int32) (p4 : Int32) (h0 : Heap) (n0 : Nat) (Z0 : n0 ≤ h0.size)  :
    OwnMet l Z x code maxLocals ret room_1 #[(.long q1), (.int p2), (.int p3), (.int p4)] h0 n0 (fun v h => v = some (.int 1)) := by
  refine own_body own_pn0 ?_
  intro p e s m below meth c s₁ RR X0
  refine own_enter (own_ef0 m q1 p2 p3 p4) ?_
  refine own_bipush X0 at_0 (pc' := 2) rfl (v := (19 : Int32)) (by decide) ?_
  refine own_newarr X0 at_2 (hw _ (List.mem_of_getElem? (i := 0) rfl)) (pc' := 4) rfl (by decide) (cap := 19) (by decide) (by decide) (by decide) (by decide) ?_
  intro T1 h1 b1 hb1 X1 E1 B1
  have g_b1 : n0 ≤ b1 := Nat.le_trans Z0 (Nat.le_of_eq hb1.symm)
  have Z1 : n0 ≤ h1.size := Nat.le_trans Z0 E1.1
  have V_b1 : OwnAr Z h1 b1 .long [(.long (0 : Int64)), (.long (0 : Int64)), (.long (0 : Int64)), (.long (0 : Int64)), (.long (0 : Int64)), (.long (0 : Int64)), (.long (0 : Int64)), (.long (0 : Int64)), (.long (0 : Int64)), (.long (0 : Int64)), (.long (0 : Int64)), (.long (0 : Int64)), (.long (0 : Int64)), (.long (0 : Int64)), (.long (0 : Int64)), (.long (0 : Int64)), (.long (0 : Int64)), (.long (0 : Int64)), (.long (0 : Int64))] := B1
  refine own_dup X1 at_4 (pc' := 5) rfl rfl ?_
  refine own_iconst X1 at_5 (pc' := 6) rfl (v := (0 : Int32)) (by decide) ?_
  refine own_lconst X1 at_6 (pc' := 7) rfl (v := (1 : Int64)) (by decide) ?_
  refine own_lastore X1 at_7 V_b1 (by decide) (Nat.le_of_ble_eq_true rfl) g_b1 (pc' := 8) rfl ?_
  intro T2 h2 X2 W2 B2
  have Z2 : n0 ≤ h2.size := Nat.le_trans Z1 (Nat.le_of_eq W2.size.symm)
  have V_b1_2 : OwnAr Z h2 b1 .long [(.long (1 : Int64)), (.long (0 : Int64)), (.long (0 : Int64)), (.long (0 : Int64)), (.long (0 : Int64)), (.long (0 : Int64)), (.long (0 : Int64)), (.long (0 : Int64)), (.long (0 : Int64)), (.long (0 : Int64)), (.long (0 : Int64)), (.long (0 : Int64)), (.long (0 : Int64)), (.long (0 : Int64)), (.long (0 : Int64)), (.long (0 : Int64)), (.long (0 : Int64)), (.long (0 : Int64)), (.long (0 : Int64))] := B2
  refine own_dup X2 at_8 (pc' := 9) rfl rfl ?_
  refine own_iconst X2 at_9 (pc' := 10) rfl (v := (1 : Int32)) (by decide) ?_
  refine own_ldc2Long X2 at_10 (pc' := 13) rfl (hw _ (List.mem_of_getElem? (i := 1) rfl)) ?_
  refine own_lastore X2 at_13 V_b1_2 (by decide) (Nat.le_of_ble_eq_true rfl) g_b1 (pc' := 14) rfl ?_
  intro T3 h3 X3 W3 B3
  have Z3 : n0 ≤ h3.size := Nat.le_trans Z2 (Nat.le_of_eq W3.size.symm)
  have V_b1_3 : OwnAr Z h3 b1 .long [(.long (1 : Int64)), (.long (10 : Int64)), (.long (0 : Int64)), (.long (0 : Int64)), (.long (0 : Int64)), (.long (0 : Int64)), (.long (0 : Int64)), (.long (0 : Int64)), (.long (0 : Int64)), (.long (0 : Int64)), (.long (0 : Int64)), (.long (0 : Int64)), (.long (0 : Int64)), (.long (0 : Int64)), (.long (0 : Int64)), (.long (0 : Int64)), (.long (0 : Int64)), (.long (0 : Int64)), (.long (0 : Int64))] := B3
  refine own_dup X3 at_14 (pc' := 15) rfl rfl ?_
  refine own_iconst X3 at_15 (pc' := 16) rfl (v := (2 : Int32)) (by decide) ?_
  refine own_ldc2Long X3 at_16 (pc' := 19) rfl (hw _ (List.mem_of_getElem? (i := 2) rfl)) ?_
  refine own_lastore X3 at_19 V_b1_3 (by decide) (Nat.le_of_ble_eq_true rfl) g_b1 (pc' := 20) rfl ?_
  intro T4 h4 X4 W4 B4
  have Z4 : n0 ≤ h4.size := Nat.le_trans Z3 (Nat.le_of_eq W4.size.symm)
  have V_b1_4 : OwnAr Z h4 b1 .long [(.long (1 : Int64)), (.long (10 : Int64)), (.long (100 : Int64)), (.long (0 : Int64)), (.long (0 : Int64)), (.long (0 : Int64)), (.long (0 : Int64)), (.long (0 : Int64)), (.long (0 : Int64)), (.long (0 : Int64)), (.long (0 : Int64)), (.long (0 : Int64)), (.long (0 : Int64)), (.long (0 : Int64)), (.long (0 : Int64)), (.long (0 : Int64)), (.long (0 : Int64)), (.long (0 : Int64)), (.long (0 : Int64))] := B4
  refine own_dup X4 at_20 (pc' := 21) rfl rfl ?_
  refine own_iconst X4 at_21 (pc' := 22) rfl (v := (3 : Int32)) (by decide) ?_
  refine own_ldc2Long X4 at_22 (pc' := 25) rfl (hw _ (List.mem_of_getElem? (i := 3) rfl)) ?_
  refine own_lastore X4 at_25 V_b1_4 (by decide) (Nat.le_of_ble_eq_true rfl) g_b1 (pc' := 26) rfl ?_
  intro T5 h5 X5 W5 B5
  have Z5 : n0 ≤ h5.size := Nat.le_trans Z4 (Nat.le_of_eq W5.size.symm)
  have V_b1_5 : OwnAr Z h5 b1 .long [(.long (1 : Int64)), (.long (10 : Int64)), (.long (100 : Int64)), (.long (1000 : Int64)), (.long (0 : Int64)), (.long (0 : Int64)), (.long (0 : Int64)), (.long (0 : Int64)), (.long (0 : Int64)), (.long (0 : Int64)), (.long (0 : Int64)), (.long (0 : Int64)), (.long (0 : Int64)), (.long (0 : Int64)), (.long (0 : Int64)), (.long (0 : Int64)), (.long (0 : Int64)), (.long (0 : Int64)), (.long (0 : Int64))] := B5
  refine own_dup X5 at_26 (pc' := 27) rfl rfl ?_
  refine own_iconst X5 at_27 (pc' := 28) rfl (v := (4 : Int32)) (by decide) ?_
  refine own_ldc2Long X5 at_28 (pc' := 31) rfl (hw _ (List.mem_of_getElem? (i := 4) rfl)) ?_
  refine own_lastore X5 at_31 V_b1_5 (by decide) (Nat.le_of_ble_eq_true rfl) g_b1 (pc' := 32) rfl ?_
  intro T6 h6 X6 W6 B6
  have Z6 : n0 ≤ h6.size := Nat.le_trans Z5 (Nat.le_of_eq W6.size.symm)
  have V_b1_6 : OwnAr Z h6 b1 .long [(.long (1 : Int64)), (.long (10 : Int64)), (.long (100 : Int64)), (.long (1000 : Int64)), (.long (10000 : Int64)), (.long (0 : Int64)), (.long (0 : Int64)), (.long (0 : Int64)), (.long (0 : Int64)), (.long (0 : Int64)), (.long (0 : Int64)), (.long (0 : Int64)), (.long (0 : Int64)), (.long (0 : Int64)), (.long (0 : Int64)), (.long (0 : Int64)), (.long (0 : Int64)), (.long (0 : Int64)), (.long (0 : Int64))] := B6
  refine own_dup X6 at_32 (pc' := 33) rfl rfl ?_
  refine own_iconst X6 at_33 (pc' := 34) rfl (v := (5 : Int32)) (by decide) ?_
  refine own_ldc2Long X6 at_34 (pc' := 37) rfl (hw _ (List.mem_of_getElem? (i := 5) rfl)) ?_
  refine own_lastore X6 at_37 V_b1_6 (by decide) (Nat.le_of_ble_eq_true rfl) g_b1 (pc' := 38) rfl ?_
  intro T7 h7 X7 W7 B7
  have Z7 : n0 ≤ h7.size := Nat.le_trans Z6 (Nat.le_of_eq W7.size.symm)
  have V_b1_7 : OwnAr Z h7 b1 .long [(.long (1 : Int64)), (.long (10 : Int64)), (.long (100 : Int64)), (.long (1000 : Int64)), (.long (10000 : Int64)), (.long (100000 : Int64)), (.long (0 : Int64)), (.long (0 : Int64)), (.long (0 : Int64)), (.long (0 : Int64)), (.long (0 : Int64)), (.long (0 : Int64)), (.long (0 : Int64)), (.long (0 : Int64)), (.long (0 : Int64)), (.long (0 : Int64)), (.long (0 : Int64)), (.long (0 : Int64)), (.long (0 : Int64))] := B7
  refine own_dup X7 at_38 (pc' := 39) rfl rfl ?_
  refine own_bipush X7 at_39 (pc' := 41) rfl (v := (6 : Int32)) (by decide) ?_
  refine own_ldc2Long X7 at_41 (pc' := 44) rfl (hw _ (List.mem_of_getElem? (i := 6) rfl)) ?_
  refine own_lastore X7 at_44 V_b1_7 (by decide) (Nat.le_of_ble_eq_true rfl) g_b1 (pc' := 45) rfl ?_
  intro T8 h8 X8 W8 B8
  have Z8 : n0 ≤ h8.size := Nat.le_trans Z7 (Nat.le_of_eq W8.size.symm)
  have V_b1_8 : OwnAr Z h8 b1 .long [(.long (1 : Int64)), (.long (10 : Int64)), (.long (100 : Int64)), (.long (1000 : Int64)), (.long (10000 : Int64)), (.long (100000 : Int64)), (.long (1000000 : Int64)), (.long (0 : Int64)), (.long (0 : Int64)), (.long (0 : Int64)), (.long (0 : Int64)), (.long (0 : Int64)), (.long (0 : Int64)), (.long (0 : Int64)), (.long (0 : Int64)), (.long (0 : Int64)), (.long (0 : Int64)), (.long (0 : Int64)), (.long (0 : Int64))] := B8
  refine own_dup X8 at_45 (pc' := 46) rfl rfl ?_
  refine own_bipush X8 at_46 (pc' := 48) rfl (v := (7 : Int32)) (by decide) ?_
  refine own_ldc2Long X8 at_48 (pc' := 51) rfl (hw _ (List.mem_of_getElem? (i := 7) rfl)) ?_
  refine own_lastore X8 at_51 V_b1_8 (by decide) (Nat.le_of_ble_eq_true rfl) g_b1 (pc' := 52) rfl ?_
  intro T9 h9 X9 W9 B9
  have Z9 : n0 ≤ h9.size := Nat.le_trans Z8 (Nat.le_of_eq W9.size.symm)
  have V_b1_9 : OwnAr Z h9 b1 .long [(.long (1 : Int64)), (.long (10 : Int64)), (.long (100 : Int64)), (.long (1000 : Int64)), (.long (10000 : Int64)), (.long (100000 : Int64)), (.long (1000000 : Int64)), (.long (10000000 : Int64)), (.long (0 : Int64)), (.long (0 : Int64)), (.long (0 : Int64)), (.long (0 : Int64)), (.long (0 : Int64)), (.long (0 : Int64)), (.long (0 : Int64)), (.long (0 : Int64)), (.long (0 : Int64)), (.long (0 : Int64)), (.long (0 : Int64))] := B9
  refine own_dup X9 at_52 (pc' := 53) rfl rfl ?_
  refine own_bipush X9 at_53 (pc' := 55) rfl (v := (8 : Int32)) (by decide) ?_
  refine own_ldc2Long X9 at_55 (pc' := 58) rfl (hw _ (List.mem_of_getElem? (i := 8) rfl)) ?_
  refine own_lastore X9 at_58 V_b1_9 (by decide) (Nat.le_of_ble_eq_true rfl) g_b1 (pc' := 59) rfl ?_
  intro T10 h10 X10 W10 B10
  have Z10 : n0 ≤ h10.size := Nat.le_trans Z9 (Nat.le_of_eq W10.size.symm)
  have V_b1_10 : OwnAr Z h10 b1 .long [(.long (1 : Int64)), (.long (10 : Int64)), (.long (100 : Int64)), (.long (1000 : Int64)), (.long (10000 : Int64)), (.long (100000 : Int64)), (.long (1000000 : Int64)), (.long (10000000 : Int64)), (.long (100000000 : Int64)), (.long (0 : Int64)), (.long (0 : Int64)), (.long (0 : Int64)), (.long (0 : Int64)), (.long (0 : Int64)), (.long (0 : Int64)), (.long (0 : Int64)), (.long (0 : Int64)), (.long (0 : Int64)), (.long (0 : Int64))] := B10
  refine own_dup X10 at_59 (pc' := 60) rfl rfl ?_
  refine own_bipush X10 at_60 (pc' := 62) rfl (v := (9 : Int32)) (by decide) ?_
  refine own_ldc2Long X10 at_62 (pc' := 65) rfl (hw _ (List.mem_of_getElem? (i := 9) rfl)) ?_
  refine own_lastore X10 at_65 V_b1_10 (by decide) (Nat.le_of_ble_eq_true rfl) g_b1 (pc' := 66) rfl ?_
  intro T11 h11 X11 W11 B11
  have Z11 : n0 ≤ h11.size := Nat.le_trans Z10 (Nat.le_of_eq W11.size.symm)
  have V_b1_11 : OwnAr Z h11 b1 .long [(.long (1 : Int64)), (.long (10 : Int64)), (.long (100 : Int64)), (.long (1000 : Int64)), (.long (10000 : Int64)), (.long (100000 : Int64)), (.long (1000000 : Int64)), (.long (10000000 : Int64)), (.long (100000000 : Int64)), (.long (1000000000 : Int64)), (.long (0 : Int64)), (.long (0 : Int64)), (.long (0 : Int64)), (.long (0 : Int64)), (.long (0 : Int64)), (.long (0 : Int64)), (.long (0 : Int64)), (.long (0 : Int64)), (.long (0 : Int64))] := B11
  refine own_dup X11 at_66 (pc' := 67) rfl rfl ?_
  refine own_bipush X11 at_67 (pc' := 69) rfl (v := (10 : Int32)) (by decide) ?_
  refine own_ldc2Long X11 at_69 (pc' := 72) rfl (hw _ (List.mem_of_getElem? (i := 10) rfl)) ?_
  refine own_lastore X11 at_72 V_b1_11 (by decide) (Nat.le_of_ble_eq_true rfl) g_b1 (pc' := 73) rfl ?_
  intro T12 h12 X12 W12 B12
  have Z12 : n0 ≤ h12.size := Nat.le_trans Z11 (Nat.le_of_eq W12.size.symm)
  have V_b1_12 : OwnAr Z h12 b1 .long [(.long (1 : Int64)), (.long (10 : Int64)), (.long (100 : Int64)), (.long (1000 : Int64)), (.long (10000 : Int64)), (.long (100000 : Int64)), (.long (1000000 : Int64)), (.long (10000000 : Int64)), (.long (100000000 : Int64)), (.long (1000000000 : Int64)), (.long (10000000000 : Int64)), (.long (0 : Int64)), (.long (0 : Int64)), (.long (0 : Int64)), (.long (0 : Int64)), (.long (0 : Int64)), (.long (0 : Int64)), (.long (0 : Int64)), (.long (0 : Int64))] := B12
  refine own_dup X12 at_73 (pc' := 74) rfl rfl ?_
  refine own_bipush X12 at_74 (pc' := 76) rfl (v := (11 : Int32)) (by decide) ?_
  refine own_ldc2Long X12 at_76 (pc' := 79) rfl (hw _ (List.mem_of_getElem? (i := 11) rfl)) ?_
  refine own_lastore X12 at_79 V_b1_12 (by decide) (Nat.le_of_ble_eq_true rfl) g_b1 (pc' := 80) rfl ?_
  intro T13 h13 X13 W13 B13
  have Z13 : n0 ≤ h13.size := Nat.le_trans Z12 (Nat.le_of_eq W13.size.symm)
  have V_b1_13 : OwnAr Z h13 b1 .long [(.long (1 : Int64)), (.long (10 : Int64)), (.long (100 : Int64)), (.long (1000 : Int64)), (.long (10000 : Int64)), (.long (100000 : Int64)), (.long (1000000 : Int64)), (.long (10000000 : Int64)), (.long (100000000 : Int64)), (.long (1000000000 : Int64)), (.long (10000000000 : Int64)), (.long (100000000000 : Int64)), (.long (0 : Int64)), (.long (0 : Int64)), (.long (0 : Int64)), (.long (0 : Int64)), (.long (0 : Int64)), (.long (0 : Int64)), (.long (0 : Int64))] := B13
  refine own_dup X13 at_80 (pc' := 81) rfl rfl ?_
  refine own_bipush X13 at_81 (pc' := 83) rfl (v := (12 : Int32)) (by decide) ?_
  refine own_ldc2Long X13 at_83 (pc' := 86) rfl (hw _ (List.mem_of_getElem? (i := 12) rfl)) ?_
  refine own_lastore X13 at_86 V_b1_13 (by decide) (Nat.le_of_ble_eq_true rfl) g_b1 (pc' := 87) rfl ?_
  intro T14 h14 X14 W14 B14
  have Z14 : n0 ≤ h14.size := Nat.le_trans Z13 (Nat.le_of_eq W14.size.symm)
  have V_b1_14 : OwnAr Z h14 b1 .long [(.long (1 : Int64)), (.long (10 : Int64)), (.long (100 : Int64)), (.long (1000 : Int64)), (.long (10000 : Int64)), (.long (100000 : Int64)), (.long (1000000 : Int64)), (.long (10000000 : Int64)), (.long (100000000 : Int64)), (.long (1000000000 : Int64)), (.long (10000000000 : Int64)), (.long (100000000000 : Int64)), (.long (1000000000000 : Int64)), (.long (0 : Int64)), (.long (0 : Int64)), (.long (0 : Int64)), (.long (0 : Int64)), (.long (0 : Int64)), (.long (0 : Int64))] := B14
  refine own_dup X14 at_87 (pc' := 88) rfl rfl ?_
  refine own_bipush X14 at_88 (pc' := 90) rfl (v := (13 : Int32)) (by decide) ?_
  refine own_ldc2Long X14 at_90 (pc' := 93) rfl (hw _ (List.mem_of_getElem? (i := 13) rfl)) ?_
  refine own_lastore X14 at_93 V_b1_14 (by decide) (Nat.le_of_ble_eq_true rfl) g_b1 (pc' := 94) rfl ?_
  intro T15 h15 X15 W15 B15
  have Z15 : n0 ≤ h15.size := Nat.le_trans Z14 (Nat.le_of_eq W15.size.symm)
  have V_b1_15 : OwnAr Z h15 b1 .long [(.long (1 : Int64)), (.long (10 : Int64)), (.long (100 : Int64)), (.long (1000 : Int64)), (.long (10000 : Int64)), (.long (100000 : Int64)), (.long (1000000 : Int64)), (.long (10000000 : Int64)), (.long (100000000 : Int64)), (.long (1000000000 : Int64)), (.long (10000000000 : Int64)), (.long (100000000000 : Int64)), (.long (1000000000000 : Int64)), (.long (10000000000000 : Int64)), (.long (0 : Int64)), (.long (0 : Int64)), (.long (0 : Int64)), (.long (0 : Int64)), (.long (0 : Int64))] := B15
  refine own_dup X15 at_94 (pc' := 95) rfl rfl ?_
  refine own_bipush X15 at_95 (pc' := 97) rfl (v := (14 : Int32)) (by decide) ?_
  refine own_ldc2Long X15 at_97 (pc' := 100) rfl (hw _ (List.mem_of_getElem? (i := 14) rfl)) ?_
  refine own_lastore X15 at_100 V_b1_15 (by decide) (Nat.le_of_ble_eq_true rfl) g_b1 (pc' := 101) rfl ?_
  intro T16 h16 X16 W16 B16
  have Z16 : n0 ≤ h16.size := Nat.le_trans Z15 (Nat.le_of_eq W16.size.symm)
  have V_b1_16 : OwnAr Z h16 b1 .long [(.long (1 : Int64)), (.long (10 : Int64)), (.long (100 : Int64)), (.long (1000 : Int64)), (.long (10000 : Int64)), (.long (100000 : Int64)), (.long (1000000 : Int64)), (.long (10000000 : Int64)), (.long (100000000 : Int64)), (.long (1000000000 : Int64)), (.long (10000000000 : Int64)), (.long (100000000000 : Int64)), (.long (1000000000000 : Int64)), (.long (10000000000000 : Int64)), (.long (100000000000000 : Int64)), (.long (0 : Int64)), (.long (0 : Int64)), (.long (0 : Int64)), (.long (0 : Int64))] := B16
  refine own_dup X16 at_101 (pc' := 102) rfl rfl ?_
  refine own_bipush X16 at_102 (pc' := 104) rfl (v := (15 : Int32)) (by decide) ?_
  refine own_ldc2Long X16 at_104 (pc' := 107) rfl (hw _ (List.mem_of_getElem? (i := 15) rfl)) ?_
  refine own_lastore X16 at_107 V_b1_16 (by decide) (Nat.le_of_ble_eq_true rfl) g_b1 (pc' := 108) rfl ?_
  intro T17 h17 X17 W17 B17
  have Z17 : n0 ≤ h17.size := Nat.le_trans Z16 (Nat.le_of_eq W17.size.symm)
  have V_b1_17 : OwnAr Z h17 b1 .long [(.long (1 : Int64)), (.long (10 : Int64)), (.long (100 : Int64)), (.long (1000 : Int64)), (.long (10000 : Int64)), (.long (100000 : Int64)), (.long (1000000 : Int64)), (.long (10000000 : Int64)), (.long (100000000 : Int64)), (.long (1000000000 : Int64)), (.long (10000000000 : Int64)), (.long (100000000000 : Int64)), (.long (1000000000000 : Int64)), (.long (10000000000000 : Int64)), (.long (100000000000000 : Int64)), (.long (1000000000000000 : Int64)), (.long (0 : Int64)), (.long (0 : Int64)), (.long (0 : Int64))] := B17
  refine own_dup X17 at_108 (pc' := 109) rfl rfl ?_
  refine own_bipush X17 at_109 (pc' := 111) rfl (v := (16 : Int32)) (by decide) ?_
  refine own_ldc2Long X17 at_111 (pc' := 114) rfl (hw _ (List.mem_of_getElem? (i := 16) rfl)) ?_
  refine own_lastore X17 at_114 V_b1_17 (by decide) (Nat.le_of_ble_eq_true rfl) g_b1 (pc' := 115) rfl ?_
  intro T18 h18 X18 W18 B18
  have Z18 : n0 ≤ h18.size := Nat.le_trans Z17 (Nat.le_of_eq W18.size.symm)
  have V_b1_18 : OwnAr Z h18 b1 .long [(.long (1 : Int64)), (.long (10 : Int64)), (.long (100 : Int64)), (.long (1000 : Int64)), (.long (10000 : Int64)), (.long (100000 : Int64)), (.long (1000000 : Int64)), (.long (10000000 : Int64)), (.long (100000000 : Int64)), (.long (1000000000 : Int64)), (.long (10000000000 : Int64)), (.long (100000000000 : Int64)), (.long (1000000000000 : Int64)), (.long (10000000000000 : Int64)), (.long (100000000000000 : Int64)), (.long (1000000000000000 : Int64)), (.long (10000000000000000 : Int64)), (.long (0 : Int64)), (.long (0 : Int64))] := B18
  refine own_dup X18 at_115 (pc' := 116) rfl rfl ?_
  refine own_bipush X18 at_116 (pc' := 118) rfl (v := (17 : Int32)) (by decide) ?_
  refine own_ldc2Long X18 at_118 (pc' := 121) rfl (hw _ (List.mem_of_getElem? (i := 17) rfl)) ?_
  refine own_lastore X18 at_121 V_b1_18 (by decide) (Nat.le_of_ble_eq_true rfl) g_b1 (pc' := 122) rfl ?_
  intro T19 h19 X19 W19 B19
  have Z19 : n0 ≤ h19.size := Nat.le_trans Z18 (Nat.le_of_eq W19.size.symm)
  have V_b1_19 : OwnAr Z h19 b1 .long [(.long (1 : Int64)), (.long (10 : Int64)), (.long (100 : Int64)), (.long (1000 : Int64)), (.long (10000 : Int64)), (.long (100000 : Int64)), (.long (1000000 : Int64)), (.long (10000000 : Int64)), (.long (100000000 : Int64)), (.long (1000000000 : Int64)), (.long (10000000000 : Int64)), (.long (100000000000 : Int64)), (.long (1000000000000 : Int64)), (.long (10000000000000 : Int64)), (.long (100000000000000 : Int64)), (.long (1000000000000000 : Int64)), (.long (10000000000000000 : Int64)), (.long (100000000000000000 : Int64)), (.long (0 : Int64))] := B19
  refine own_dup X19 at_122 (pc' := 123) rfl rfl ?_
  refine own_bipush X19 at_123 (pc' := 125) rfl (v := (18 : Int32)) (by decide) ?_
  refine own_ldc2Long X19 at_125 (pc' := 128) rfl (hw _ (List.mem_of_getElem? (i := 18) rfl)) ?_
  refine own_lastore X19 at_128 V_b1_19 (by decide) (Nat.le_of_ble_eq_true rfl) g_b1 (pc' := 129) rfl ?_
  intro T20 h20 X20 W20 B20
  have Z20 : n0 ≤ h20.size := Nat.le_trans Z19 (Nat.le_of_eq W20.size.symm)
  have V_b1_20 : OwnAr Z h20 b1 .long [(.long (1 : Int64)), (.long (10 : Int64)), (.long (100 : Int64)), (.long (1000 : Int64)), (.long (10000 : Int64)), (.long (100000 : Int64)), (.long (1000000 : Int64)), (.long (10000000 : Int64)), (.long (100000000 : Int64)), (.long (1000000000 : Int64)), (.long (10000000000 : Int64)), (.long (100000000000 : Int64)), (.long (1000000000000 : Int64)), (.long (10000000000000 : Int64)), (.long (100000000000000 : Int64)), (.long (1000000000000000 : Int64)), (.long (10000000000000000 : Int64)), (.long (100000000000000000 : Int64)), (.long (1000000000000000000 : Int64))] := B20
  refine own_astore X20 at_129 (pc' := 131) rfl rfl (l' := #[.val (.long q1), .second, .val (.int p2), .val (.int p3), .val (.int p4), .val (.ref b1), .unset, .unset, .unset, .unset, .unset, .unset]) rfl ?_
  refine own_lloadN X20 at_131 (pc' := 132) rfl rfl ?_
  refine own_ldc2Long X20 at_132 (pc' := 135) rfl (hw _ (List.mem_of_getElem? (i := 19) rfl)) ?_
  refine own_land X20 at_135 (pc' := 136) rfl ?_
  refine own_aload X20 at_136 (pc' := 138) rfl rfl rfl ?_
  refine own_bipush X20 at_138 (pc' := 140) rfl (v := (18 : Int32)) (by decide) ?_
  refine own_laload X20 at_140 V_b1_20 (by decide) (v := (.long (1000000000000000000 : Int64))) rfl (pc' := 141) rfl ?_
  refine own_lrem X20 at_141 (pc' := 142) rfl (by decide) ?_
  refine own_lstoreV X20 at_142 (pc' := 144) rfl (l' := fun v142 => #[.val (.long q1), .second, .val (.int p2), .val (.int p3), .val (.int p4), .val (.ref b1), .val (.long v142), .second, .unset, .unset, .unset, .unset]) (fun _ => rfl) ?_
  intro v142 hv142
  refine own_iloadN X20 at_144 (pc' := 145) rfl rfl ?_
  refine own_ldcInt X20 at_145 (pc' := 147) rfl (hw _ (List.mem_of_getElem? (i := 20) rfl)) ?_
  refine own_iand X20 at_147 (pc' := 148) rfl ?_
  refine own_bipush X20 at_148 (pc' := 150) rfl (v := (20 : Int32)) (by decide) ?_
  refine own_irem X20 at_150 (pc' := 151) rfl (by decide) ?_
  refine own_istoreV X20 at_151 (pc' := 153) rfl (l' := fun v151 => #[.val (.long q1), .second, .val (.int p2), .val (.int p3), .val (.int p4), .val (.ref b1), .val (.long v142), .second, .val (.int v151), .unset, .unset, .unset]) (fun _ => rfl) ?_
  intro v151 hv151
  refine own_iconst X20 at_153 (pc' := 154) rfl (v := (-1 : Int32)) (by decide) ?_
  refine own_istore X20 at_154 (pc' := 156) rfl (l' := #[.val (.long q1), .second, .val (.int p2), .val (.int p3), .val (.int p4), .val (.ref b1), .val (.long v142), .second, .val (.int v151), .val (.int (-1 : Int32)), .unset, .unset]) rfl ?_
  refine own_iload X20 at_156 (pc' := 158) rfl rfl ?_
  refine own_iconst X20 at_158 (pc' := 159) rfl (v := (1 : Int32)) (by decide) ?_
  refine own_iand X20 at_159 (pc' := 160) rfl ?_
  have j177_21 : ∀ (f177_9 : Int32), f177_9 = (if (p4 &&& (1 : Int32)) = (0 : Int32) then (-1 : Int32) else (if (0 : Int32) < v151 then ((p3 &&& (2147483647 : Int32)) % v151) else (-1 : Int32))) → OwnGo p e below (T20.setTop (mkF m 177 #[.val (.long q1), .second, .val (.int p2), .val (.int p3), .val (.int p4), .val (.ref b1), .val (.long v142), .second, .val (.int v151), .val (.int f177_9), .unset, .unset] [])) RR := by
    intro f177_9 hf177_9
    refine own_iload X20 at_177 (pc' := 179) rfl rfl ?_
    have j193_22 : ∀ (f193_8 : Int32), f193_8 = (if f177_9 < (0 : Int32) then (if v151 = (19 : Int32) then (18 : Int32) else v151) else v151) → OwnGo p e below (T20.setTop (mkF m 193 #[.val (.long q1), .second, .val (.int p2), .val (.int p3), .val (.int p4), .val (.ref b1), .val (.long v142), .second, .val (.int f193_8), .val (.int f177_9), .unset, .unset] [])) RR := by
      intro f193_8 hf193_8
      refine own_iload X20 at_193 (pc' := 195) rfl rfl ?_
      have j207_23 : ∀ (f207_s0 : Int32), f207_s0 = (if f177_9 < (0 : Int32) then f193_8 else (f193_8 - (1 : Int32))) → OwnGo p e below (T20.setTop (mkF m 207 #[.val (.long q1), .second, .val (.int p2), .val (.int p3), .val (.int p4), .val (.ref b1), .val (.long v142), .second, .val (.int f193_8), .val (.int f177_9), .unset, .unset] [(.int f207_s0)])) RR := by
        intro f207_s0 hf207_s0
        refine own_istore X20 at_207 (pc' := 209) rfl (l' := #[.val (.long q1), .second, .val (.int p2), .val (.int p3), .val (.int p4), .val (.ref b1), .val (.long v142), .second, .val (.int f193_8), .val (.int f177_9), .val (.int f207_s0), .unset]) rfl ?_
        have hR : OwnRel f193_8 f177_9 f207_s0 := own_rel _ _ _ _ _ _ _ hv151 hf177_9 hf193_8 hf207_s0
        refine own_iload X20 at_209 (pc' := 211) rfl rfl ?_
        refine own_newarr X20 at_211 (hw _ (List.mem_of_getElem? (i := 21) rfl)) (pc' := 213) rfl (own_rl _ _ _ hR).1 (cap := 19) (own_rl _ _ _ hR).2.1 (by decide) (by decide) (by decide) ?_
        intro T24 h24 b24 hb24 X24 E24 B24
        have g_b24 : n0 ≤ b24 := Nat.le_trans Z20 (Nat.le_of_eq hb24.symm)
        have ne_b1_b24 : b1 ≠ b24 := Nat.ne_of_lt (Nat.lt_of_lt_of_le (V_b1_20).lt (Nat.le_of_eq hb24.symm))
        have V_b1_24 := (V_b1_20).ext E24
        have Z24 : n0 ≤ h24.size := Nat.le_trans Z20 E24.1
        have V_b24 : OwnAr Z h24 b24 .char ((List.replicate (f193_8).toNatClampNeg (0 : Int32)).map Value.int) := (by rw [List.map_replicate]; exact B24)
        refine own_astore X24 at_213 (pc' := 215) rfl rfl (l' := #[.val (.long q1), .second, .val (.int p2), .val (.int p3), .val (.int p4), .val (.ref b1), .val (.long v142), .second, .val (.int f193_8), .val (.int f177_9), .val (.int f207_s0), .val (.ref b24)]) rfl ?_
        have hln0 : (List.replicate (f193_8).toNatClampNeg (0 : Int32)).length = (f193_8).toNatClampNeg := List.length_replicate
        have hfl0 : (List.replicate (f193_8).toNatClampNeg (0 : Int32)) = ownFill (f193_8).toNatClampNeg f177_9 f207_s0 v142 0 := rfl
        refine own_aload X24 at_215 (pc' := 217) rfl rfl rfl ?_
        refine own_iconst X24 at_217 (pc' := 218) rfl (v := (0 : Int32)) (by decide) ?_
        refine own_iload X24 at_218 (pc' := 220) rfl rfl ?_
        refine own_iload X24 at_220 (pc' := 222) rfl rfl ?_
        refine own_lload X24 at_222 (pc' := 224) rfl rfl ?_
        refine own_aload X24 at_224 (pc' := 226) rfl rfl rfl ?_
        refine own_callS (argsL := [(.ref b24), (.int (0 : Int32)), (.int f177_9), (.int f207_s0), (.long v142), (.ref b1)]) X24 at_226 (y := (⟨"com/example/outcry/outcry/market/CharactersDigitsValuePinLaw", "put", "([CIIIJ[J)V"⟩ : MethodName)) (by decide) (hw _ (List.mem_of_getElem? (i := 22) rfl)) (hw _ (List.mem_of_getElem? (i := 23) rfl)) (hw _ (List.mem_of_getElem? (i := 25) rfl)) (hw _ (List.mem_of_getElem? (i := 24) rfl)) (own_rm1 l Z a0 hw b24 b1 ((List.replicate (f193_8).toNatClampNeg (0 : Int32))) (0 : Int32) f177_9 f207_s0 v142 h24 n0 Z24 V_b24 V_b1_24 g_b24 ne_b1_b24 (by decide) (by rw [hln0]; exact (own_rl _ _ _ hR).2.1) (own_hix _ _ _ _ _ hR (by decide) hln0)) own_pd0 rfl (S := []) rfl (pc' := 229) rfl rfl (W := 0) (Nat.le_of_eq rfl) (by decide) (by decide) (by decide) (by decide) ?_
        intro T25 h25 v25_ X25 q25_
        obtain ⟨ys_25, rfl, hy_25, KK25, FF25q0⟩ := q25_
        show OwnGo p e below (T25.setTop (mkF m 229 #[.val (.long q1), .second, .val (.int p2), .val (.int p3), .val (.int p4), .val (.ref b1), .val (.long v142), .second, .val (.int f193_8), .val (.int f177_9), .val (.int f207_s0), .val (.ref b24)] [])) RR
        have Z25 : n0 ≤ h25.size := Nat.le_trans Z24 KK25.1
        have V_b1_25 := (V_b1_24).keep KK25 (ninS ne_b1_b24 nin0)
        have hln1 : ys_25.length = (f193_8).toNatClampNeg := by rw [hy_25, List.length_set]; exact hln0
        have hfl1 : ys_25 = ownFill (f193_8).toNatClampNeg f177_9 f207_s0 v142 1 := by rw [hy_25, hfl0]; exact own_fs _ _ _ _ _ _ rfl (by decide)
        refine own_aload X25 at_229 (pc' := 231) rfl rfl rfl ?_
        refine own_iconst X25 at_231 (pc' := 232) rfl (v := (1 : Int32)) (by decide) ?_
        refine own_iload X25 at_232 (pc' := 234) rfl rfl ?_
        refine own_iload X25 at_234 (pc' := 236) rfl rfl ?_
        refine own_lload X25 at_236 (pc' := 238) rfl rfl ?_
        refine own_aload X25 at_238 (pc' := 240) rfl rfl rfl ?_
        refine own_callS (argsL := [(.ref b24), (.int (1 : Int32)), (.int f177_9), (.int f207_s0), (.long v142), (.ref b1)]) X25 at_240 (y := (⟨"com/example/outcry/outcry/market/CharactersDigitsValuePinLaw", "put", "([CIIIJ[J)V"⟩ : MethodName)) (by decide) (hw _ (List.mem_of_getElem? (i := 22) rfl)) (hw _ (List.mem_of_getElem? (i := 23) rfl)) (hw _ (List.mem_of_getElem? (i := 25) rfl)) (hw _ (List.mem_of_getElem? (i := 24) rfl)) (own_rm1 l Z a0 hw b24 b1 ys_25 (1 : Int32) f177_9 f207_s0 v142 h25 n0 Z25 FF25q0 V_b1_25 g_b24 ne_b1_b24 (by decide) (by rw [hln1]; exact (own_rl _ _ _ hR).2.1) (own_hix _ _ _ _ _ hR (by decide) hln1)) own_pd0 rfl (S := []) rfl (pc' := 243) rfl rfl (W := 0) (Nat.le_of_eq rfl) (by decide) (by decide) (by decide) (by decide) ?_
        intro T26 h26 v26_ X26 q26_
        obtain ⟨ys_26, rfl, hy_26, KK26, FF26q0⟩ := q26_
        show OwnGo p e below (T26.setTop (mkF m 243 #[.val (.long q1), .second, .val (.int p2), .val (.int p3), .val (.int p4), .val (.ref b1), .val (.long v142), .second, .val (.int f193_8), .val (.int f177_9), .val (.int f207_s0), .val (.ref b24)] [])) RR
        have Z26 : n0 ≤ h26.size := Nat.le_trans Z25 KK26.1
        have V_b1_26 := (V_b1_25).keep KK26 (ninS ne_b1_b24 nin0)
        have hln2 : ys_26.length = (f193_8).toNatClampNeg := by rw [hy_26, List.length_set]; exact hln1
        have hfl2 : ys_26 = ownFill (f193_8).toNatClampNeg f177_9 f207_s0 v142 2 := by rw [hy_26, hfl1]; exact own_fs _ _ _ _ _ _ rfl (by decide)
        refine own_aload X26 at_243 (pc' := 245) rfl rfl rfl ?_
        refine own_iconst X26 at_245 (pc' := 246) rfl (v := (2 : Int32)) (by decide) ?_
        refine own_iload X26 at_246 (pc' := 248) rfl rfl ?_
        refine own_iload X26 at_248 (pc' := 250) rfl rfl ?_
        refine own_lload X26 at_250 (pc' := 252) rfl rfl ?_
        refine own_aload X26 at_252 (pc' := 254) rfl rfl rfl ?_
        refine own_callS (argsL := [(.ref b24), (.int (2 : Int32)), (.int f177_9), (.int f207_s0), (.long v142), (.ref b1)]) X26 at_254 (y := (⟨"com/example/outcry/outcry/market/CharactersDigitsValuePinLaw", "put", "([CIIIJ[J)V"⟩ : MethodName)) (by decide) (hw _ (List.mem_of_getElem? (i := 22) rfl)) (hw _ (List.mem_of_getElem? (i := 23) rfl)) (hw _ (List.mem_of_getElem? (i := 25) rfl)) (hw _ (List.mem_of_getElem? (i := 24) rfl)) (own_rm1 l Z a0 hw b24 b1 ys_26 (2 : Int32) f177_9 f207_s0 v142 h26 n0 Z26 FF26q0 V_b1_26 g_b24 ne_b1_b24 (by decide) (by rw [hln2]; exact (own_rl _ _ _ hR).2.1) (own_hix _ _ _ _ _ hR (by decide) hln2)) own_pd0 rfl (S := []) rfl (pc' := 257) rfl rfl (W := 0) (Nat.le_of_eq rfl) (by decide) (by decide) (by decide) (by decide) ?_
        intro T27 h27 v27_ X27 q27_
        obtain ⟨ys_27, rfl, hy_27, KK27, FF27q0⟩ := q27_
        show OwnGo p e below (T27.setTop (mkF m 257 #[.val (.long q1), .second, .val (.int p2), .val (.int p3), .val (.int p4), .val (.ref b1), .val (.long v142), .second, .val (.int f193_8), .val (.int f177_9), .val (.int f207_s0), .val (.ref b24)] [])) RR
        have Z27 : n0 ≤ h27.size := Nat.le_trans Z26 KK27.1
        have V_b1_27 := (V_b1_26).keep KK27 (ninS ne_b1_b24 nin0)
        have hln3 : ys_27.length = (f193_8).toNatClampNeg := by rw [hy_27, List.length_set]; exact hln2
        have hfl3 : ys_27 = ownFill (f193_8).toNatClampNeg f177_9 f207_s0 v142 3 := by rw [hy_27, hfl2]; exact own_fs _ _ _ _ _ _ rfl (by decide)
        refine own_aload X27 at_257 (pc' := 259) rfl rfl rfl ?_
        refine own_iconst X27 at_259 (pc' := 260) rfl (v := (3 : Int32)) (by decide) ?_
        refine own_iload X27 at_260 (pc' := 262) rfl rfl ?_
        refine own_iload X27 at_262 (pc' := 264) rfl rfl ?_
        refine own_lload X27 at_264 (pc' := 266) rfl rfl ?_
        refine own_aload X27 at_266 (pc' := 268) rfl rfl rfl ?_
        refine own_callS (argsL := [(.ref b24), (.int (3 : Int32)), (.int f177_9), (.int f207_s0), (.long v142), (.ref b1)]) X27 at_268 (y := (⟨"com/example/outcry/outcry/market/CharactersDigitsValuePinLaw", "put", "([CIIIJ[J)V"⟩ : MethodName)) (by decide) (hw _ (List.mem_of_getElem? (i := 22) rfl)) (hw _ (List.mem_of_getElem? (i := 23) rfl)) (hw _ (List.mem_of_getElem? (i := 25) rfl)) (hw _ (List.mem_of_getElem? (i := 24) rfl)) (own_rm1 l Z a0 hw b24 b1 ys_27 (3 : Int32) f177_9 f207_s0 v142 h27 n0 Z27 FF27q0 V_b1_27 g_b24 ne_b1_b24 (by decide) (by rw [hln3]; exact (own_rl _ _ _ hR).2.1) (own_hix _ _ _ _ _ hR (by decide) hln3)) own_pd0 rfl (S := []) rfl (pc' := 271) rfl rfl (W := 0) (Nat.le_of_eq rfl) (by decide) (by decide) (by decide) (by decide) ?_
        intro T28 h28 v28_ X28 q28_
        obtain ⟨ys_28, rfl, hy_28, KK28, FF28q0⟩ := q28_
        show OwnGo p e below (T28.setTop (mkF m 271 #[.val (.long q1), .second, .val (.int p2), .val (.int p3), .val (.int p4), .val (.ref b1), .val (.long v142), .second, .val (.int f193_8), .val (.int f177_9), .val (.int f207_s0), .val (.ref b24)] [])) RR
        have Z28 : n0 ≤ h28.size := Nat.le_trans Z27 KK28.1
        have V_b1_28 := (V_b1_27).keep KK28 (ninS ne_b1_b24 nin0)
        have hln4 : ys_28.length = (f193_8).toNatClampNeg := by rw [hy_28, List.length_set]; exact hln3
        have hfl4 : ys_28 = ownFill (f193_8).toNatClampNeg f177_9 f207_s0 v142 4 := by rw [hy_28, hfl3]; exact own_fs _ _ _ _ _ _ rfl (by decide)
        refine own_aload X28 at_271 (pc' := 273) rfl rfl rfl ?_
        refine own_iconst X28 at_273 (pc' := 274) rfl (v := (4 : Int32)) (by decide) ?_
        refine own_iload X28 at_274 (pc' := 276) rfl rfl ?_
        refine own_iload X28 at_276 (pc' := 278) rfl rfl ?_
        refine own_lload X28 at_278 (pc' := 280) rfl rfl ?_
        refine own_aload X28 at_280 (pc' := 282) rfl rfl rfl ?_
        refine own_callS (argsL := [(.ref b24), (.int (4 : Int32)), (.int f177_9), (.int f207_s0), (.long v142), (.ref b1)]) X28 at_282 (y := (⟨"com/example/outcry/outcry/market/CharactersDigitsValuePinLaw", "put", "([CIIIJ[J)V"⟩ : MethodName)) (by decide) (hw _ (List.mem_of_getElem? (i := 22) rfl)) (hw _ (List.mem_of_getElem? (i := 23) rfl)) (hw _ (List.mem_of_getElem? (i := 25) rfl)) (hw _ (List.mem_of_getElem? (i := 24) rfl)) (own_rm1 l Z a0 hw b24 b1 ys_28 (4 : Int32) f177_9 f207_s0 v142 h28 n0 Z28 FF28q0 V_b1_28 g_b24 ne_b1_b24 (by decide) (by rw [hln4]; exact (own_rl _ _ _ hR).2.1) (own_hix _ _ _ _ _ hR (by decide) hln4)) own_pd0 rfl (S := []) rfl (pc' := 285) rfl rfl (W := 0) (Nat.le_of_eq rfl) (by decide) (by decide) (by decide) (by decide) ?_
        intro T29 h29 v29_ X29 q29_
        obtain ⟨ys_29, rfl, hy_29, KK29, FF29q0⟩ := q29_
        show OwnGo p e below (T29.setTop (mkF m 285 #[.val (.long q1), .second, .val (.int p2), .val (.int p3), .val (.int p4), .val (.ref b1), .val (.long v142), .second, .val (.int f193_8), .val (.int f177_9), .val (.int f207_s0), .val (.ref b24)] [])) RR
        have Z29 : n0 ≤ h29.size := Nat.le_trans Z28 KK29.1
        have V_b1_29 := (V_b1_28).keep KK29 (ninS ne_b1_b24 nin0)
        have hln5 : ys_29.length = (f193_8).toNatClampNeg := by rw [hy_29, List.length_set]; exact hln4
        have hfl5 : ys_29 = ownFill (f193_8).toNatClampNeg f177_9 f207_s0 v142 5 := by rw [hy_29, hfl4]; exact own_fs _ _ _ _ _ _ rfl (by decide)
        refine own_aload X29 at_285 (pc' := 287) rfl rfl rfl ?_
        refine own_iconst X29 at_287 (pc' := 288) rfl (v := (5 : Int32)) (by decide) ?_
        refine own_iload X29 at_288 (pc' := 290) rfl rfl ?_
        refine own_iload X29 at_290 (pc' := 292) rfl rfl ?_
        refine own_lload X29 at_292 (pc' := 294) rfl rfl ?_
        refine own_aload X29 at_294 (pc' := 296) rfl rfl rfl ?_
        refine own_callS (argsL := [(.ref b24), (.int (5 : Int32)), (.int f177_9), (.int f207_s0), (.long v142), (.ref b1)]) X29 at_296 (y := (⟨"com/example/outcry/outcry/market/CharactersDigitsValuePinLaw", "put", "([CIIIJ[J)V"⟩ : MethodName)) (by decide) (hw _ (List.mem_of_getElem? (i := 22) rfl)) (hw _ (List.mem_of_getElem? (i := 23) rfl)) (hw _ (List.mem_of_getElem? (i := 25) rfl)) (hw _ (List.mem_of_getElem? (i := 24) rfl)) (own_rm1 l Z a0 hw b24 b1 ys_29 (5 : Int32) f177_9 f207_s0 v142 h29 n0 Z29 FF29q0 V_b1_29 g_b24 ne_b1_b24 (by decide) (by rw [hln5]; exact (own_rl _ _ _ hR).2.1) (own_hix _ _ _ _ _ hR (by decide) hln5)) own_pd0 rfl (S := []) rfl (pc' := 299) rfl rfl (W := 0) (Nat.le_of_eq rfl) (by decide) (by decide) (by decide) (by decide) ?_
        intro T30 h30 v30_ X30 q30_
        obtain ⟨ys_30, rfl, hy_30, KK30, FF30q0⟩ := q30_
        show OwnGo p e below (T30.setTop (mkF m 299 #[.val (.long q1), .second, .val (.int p2), .val (.int p3), .val (.int p4), .val (.ref b1), .val (.long v142), .second, .val (.int f193_8), .val (.int f177_9), .val (.int f207_s0), .val (.ref b24)] [])) RR
        have Z30 : n0 ≤ h30.size := Nat.le_trans Z29 KK30.1
        have V_b1_30 := (V_b1_29).keep KK30 (ninS ne_b1_b24 nin0)
        have hln6 : ys_30.length = (f193_8).toNatClampNeg := by rw [hy_30, List.length_set]; exact hln5
        have hfl6 : ys_30 = ownFill (f193_8).toNatClampNeg f177_9 f207_s0 v142 6 := by rw [hy_30, hfl5]; exact own_fs _ _ _ _ _ _ rfl (by decide)
        refine own_aload X30 at_299 (pc' := 301) rfl rfl rfl ?_
        refine own_bipush X30 at_301 (pc' := 303) rfl (v := (6 : Int32)) (by decide) ?_
        refine own_iload X30 at_303 (pc' := 305) rfl rfl ?_
        refine own_iload X30 at_305 (pc' := 307) rfl rfl ?_
        refine own_lload X30 at_307 (pc' := 309) rfl rfl ?_
        refine own_aload X30 at_309 (pc' := 311) rfl rfl rfl ?_
        refine own_callS (argsL := [(.ref b24), (.int (6 : Int32)), (.int f177_9), (.int f207_s0), (.long v142), (.ref b1)]) X30 at_311 (y := (⟨"com/example/outcry/outcry/market/CharactersDigitsValuePinLaw", "put", "([CIIIJ[J)V"⟩ : MethodName)) (by decide) (hw _ (List.mem_of_getElem? (i := 22) rfl)) (hw _ (List.mem_of_getElem? (i := 23) rfl)) (hw _ (List.mem_of_getElem? (i := 25) rfl)) (hw _ (List.mem_of_getElem? (i := 24) rfl)) (own_rm1 l Z a0 hw b24 b1 ys_30 (6 : Int32) f177_9 f207_s0 v142 h30 n0 Z30 FF30q0 V_b1_30 g_b24 ne_b1_b24 (by decide) (by rw [hln6]; exact (own_rl _ _ _ hR).2.1) (own_hix _ _ _ _ _ hR (by decide) hln6)) own_pd0 rfl (S := []) rfl (pc' := 314) rfl rfl (W := 0) (Nat.le_of_eq rfl) (by decide) (by decide) (by decide) (by decide) ?_
        intro T31 h31 v31_ X31 q31_
        obtain ⟨ys_31, rfl, hy_31, KK31, FF31q0⟩ := q31_
        show OwnGo p e below (T31.setTop (mkF m 314 #[.val (.long q1), .second, .val (.int p2), .val (.int p3), .val (.int p4), .val (.ref b1), .val (.long v142), .second, .val (.int f193_8), .val (.int f177_9), .val (.int f207_s0), .val (.ref b24)] [])) RR
        have Z31 : n0 ≤ h31.size := Nat.le_trans Z30 KK31.1
        have V_b1_31 := (V_b1_30).keep KK31 (ninS ne_b1_b24 nin0)
        have hln7 : ys_31.length = (f193_8).toNatClampNeg := by rw [hy_31, List.length_set]; exact hln6
        have hfl7 : ys_31 = ownFill (f193_8).toNatClampNeg f177_9 f207_s0 v142 7 := by rw [hy_31, hfl6]; exact own_fs _ _ _ _ _ _ rfl (by decide)
        refine own_aload X31 at_314 (pc' := 316) rfl rfl rfl ?_
        refine own_bipush X31 at_316 (pc' := 318) rfl (v := (7 : Int32)) (by decide) ?_
        refine own_iload X31 at_318 (pc' := 320) rfl rfl ?_
        refine own_iload X31 at_320 (pc' := 322) rfl rfl ?_
        refine own_lload X31 at_322 (pc' := 324) rfl rfl ?_
        refine own_aload X31 at_324 (pc' := 326) rfl rfl rfl ?_
        refine own_callS (argsL := [(.ref b24), (.int (7 : Int32)), (.int f177_9), (.int f207_s0), (.long v142), (.ref b1)]) X31 at_326 (y := (⟨"com/example/outcry/outcry/market/CharactersDigitsValuePinLaw", "put", "([CIIIJ[J)V"⟩ : MethodName)) (by decide) (hw _ (List.mem_of_getElem? (i := 22) rfl)) (hw _ (List.mem_of_getElem? (i := 23) rfl)) (hw _ (List.mem_of_getElem? (i := 25) rfl)) (hw _ (List.mem_of_getElem? (i := 24) rfl)) (own_rm1 l Z a0 hw b24 b1 ys_31 (7 : Int32) f177_9 f207_s0 v142 h31 n0 Z31 FF31q0 V_b1_31 g_b24 ne_b1_b24 (by decide) (by rw [hln7]; exact (own_rl _ _ _ hR).2.1) (own_hix _ _ _ _ _ hR (by decide) hln7)) own_pd0 rfl (S := []) rfl (pc' := 329) rfl rfl (W := 0) (Nat.le_of_eq rfl) (by decide) (by decide) (by decide) (by decide) ?_
        intro T32 h32 v32_ X32 q32_
        obtain ⟨ys_32, rfl, hy_32, KK32, FF32q0⟩ := q32_
        show OwnGo p e below (T32.setTop (mkF m 329 #[.val (.long q1), .second, .val (.int p2), .val (.int p3), .val (.int p4), .val (.ref b1), .val (.long v142), .second, .val (.int f193_8), .val (.int f177_9), .val (.int f207_s0), .val (.ref b24)] [])) RR
        have Z32 : n0 ≤ h32.size := Nat.le_trans Z31 KK32.1
        have V_b1_32 := (V_b1_31).keep KK32 (ninS ne_b1_b24 nin0)
        have hln8 : ys_32.length = (f193_8).toNatClampNeg := by rw [hy_32, List.length_set]; exact hln7
        have hfl8 : ys_32 = ownFill (f193_8).toNatClampNeg f177_9 f207_s0 v142 8 := by rw [hy_32, hfl7]; exact own_fs _ _ _ _ _ _ rfl (by decide)
        refine own_aload X32 at_329 (pc' := 331) rfl rfl rfl ?_
        refine own_bipush X32 at_331 (pc' := 333) rfl (v := (8 : Int32)) (by decide) ?_
        refine own_iload X32 at_333 (pc' := 335) rfl rfl ?_
        refine own_iload X32 at_335 (pc' := 337) rfl rfl ?_
        refine own_lload X32 at_337 (pc' := 339) rfl rfl ?_
        refine own_aload X32 at_339 (pc' := 341) rfl rfl rfl ?_
        refine own_callS (argsL := [(.ref b24), (.int (8 : Int32)), (.int f177_9), (.int f207_s0), (.long v142), (.ref b1)]) X32 at_341 (y := (⟨"com/example/outcry/outcry/market/CharactersDigitsValuePinLaw", "put", "([CIIIJ[J)V"⟩ : MethodName)) (by decide) (hw _ (List.mem_of_getElem? (i := 22) rfl)) (hw _ (List.mem_of_getElem? (i := 23) rfl)) (hw _ (List.mem_of_getElem? (i := 25) rfl)) (hw _ (List.mem_of_getElem? (i := 24) rfl)) (own_rm1 l Z a0 hw b24 b1 ys_32 (8 : Int32) f177_9 f207_s0 v142 h32 n0 Z32 FF32q0 V_b1_32 g_b24 ne_b1_b24 (by decide) (by rw [hln8]; exact (own_rl _ _ _ hR).2.1) (own_hix _ _ _ _ _ hR (by decide) hln8)) own_pd0 rfl (S := []) rfl (pc' := 344) rfl rfl (W := 0) (Nat.le_of_eq rfl) (by decide) (by decide) (by decide) (by decide) ?_
        intro T33 h33 v33_ X33 q33_
        obtain ⟨ys_33, rfl, hy_33, KK33, FF33q0⟩ := q33_
        show OwnGo p e below (T33.setTop (mkF m 344 #[.val (.long q1), .second, .val (.int p2), .val (.int p3), .val (.int p4), .val (.ref b1), .val (.long v142), .second, .val (.int f193_8), .val (.int f177_9), .val (.int f207_s0), .val (.ref b24)] [])) RR
        have Z33 : n0 ≤ h33.size := Nat.le_trans Z32 KK33.1
        have V_b1_33 := (V_b1_32).keep KK33 (ninS ne_b1_b24 nin0)
        have hln9 : ys_33.length = (f193_8).toNatClampNeg := by rw [hy_33, List.length_set]; exact hln8
        have hfl9 : ys_33 = ownFill (f193_8).toNatClampNeg f177_9 f207_s0 v142 9 := by rw [hy_33, hfl8]; exact own_fs _ _ _ _ _ _ rfl (by decide)
        refine own_aload X33 at_344 (pc' := 346) rfl rfl rfl ?_
        refine own_bipush X33 at_346 (pc' := 348) rfl (v := (9 : Int32)) (by decide) ?_
        refine own_iload X33 at_348 (pc' := 350) rfl rfl ?_
        refine own_iload X33 at_350 (pc' := 352) rfl rfl ?_
        refine own_lload X33 at_352 (pc' := 354) rfl rfl ?_
        refine own_aload X33 at_354 (pc' := 356) rfl rfl rfl ?_
        refine own_callS (argsL := [(.ref b24), (.int (9 : Int32)), (.int f177_9), (.int f207_s0), (.long v142), (.ref b1)]) X33 at_356 (y := (⟨"com/example/outcry/outcry/market/CharactersDigitsValuePinLaw", "put", "([CIIIJ[J)V"⟩ : MethodName)) (by decide) (hw _ (List.mem_of_getElem? (i := 22) rfl)) (hw _ (List.mem_of_getElem? (i := 23) rfl)) (hw _ (List.mem_of_getElem? (i := 25) rfl)) (hw _ (List.mem_of_getElem? (i := 24) rfl)) (own_rm1 l Z a0 hw b24 b1 ys_33 (9 : Int32) f177_9 f207_s0 v142 h33 n0 Z33 FF33q0 V_b1_33 g_b24 ne_b1_b24 (by decide) (by rw [hln9]; exact (own_rl _ _ _ hR).2.1) (own_hix _ _ _ _ _ hR (by decide) hln9)) own_pd0 rfl (S := []) rfl (pc' := 359) rfl rfl (W := 0) (Nat.le_of_eq rfl) (by decide) (by decide) (by decide) (by decide) ?_
        intro T34 h34 v34_ X34 q34_
        obtain ⟨ys_34, rfl, hy_34, KK34, FF34q0⟩ := q34_
        show OwnGo p e below (T34.setTop (mkF m 359 #[.val (.long q1), .second, .val (.int p2), .val (.int p3), .val (.int p4), .val (.ref b1), .val (.long v142), .second, .val (.int f193_8), .val (.int f177_9), .val (.int f207_s0), .val (.ref b24)] [])) RR
        have Z34 : n0 ≤ h34.size := Nat.le_trans Z33 KK34.1
        have V_b1_34 := (V_b1_33).keep KK34 (ninS ne_b1_b24 nin0)
        have hln10 : ys_34.length = (f193_8).toNatClampNeg := by rw [hy_34, List.length_set]; exact hln9
        have hfl10 : ys_34 = ownFill (f193_8).toNatClampNeg f177_9 f207_s0 v142 10 := by rw [hy_34, hfl9]; exact own_fs _ _ _ _ _ _ rfl (by decide)
        refine own_aload X34 at_359 (pc' := 361) rfl rfl rfl ?_
        refine own_bipush X34 at_361 (pc' := 363) rfl (v := (10 : Int32)) (by decide) ?_
        refine own_iload X34 at_363 (pc' := 365) rfl rfl ?_
        refine own_iload X34 at_365 (pc' := 367) rfl rfl ?_
        refine own_lload X34 at_367 (pc' := 369) rfl rfl ?_
        refine own_aload X34 at_369 (pc' := 371) rfl rfl rfl ?_
        refine own_callS (argsL := [(.ref b24), (.int (10 : Int32)), (.int f177_9), (.int f207_s0), (.long v142), (.ref b1)]) X34 at_371 (y := (⟨"com/example/outcry/outcry/market/CharactersDigitsValuePinLaw", "put", "([CIIIJ[J)V"⟩ : MethodName)) (by decide) (hw _ (List.mem_of_getElem? (i := 22) rfl)) (hw _ (List.mem_of_getElem? (i := 23) rfl)) (hw _ (List.mem_of_getElem? (i := 25) rfl)) (hw _ (List.mem_of_getElem? (i := 24) rfl)) (own_rm1 l Z a0 hw b24 b1 ys_34 (10 : Int32) f177_9 f207_s0 v142 h34 n0 Z34 FF34q0 V_b1_34 g_b24 ne_b1_b24 (by decide) (by rw [hln10]; exact (own_rl _ _ _ hR).2.1) (own_hix _ _ _ _ _ hR (by decide) hln10)) own_pd0 rfl (S := []) rfl (pc' := 374) rfl rfl (W := 0) (Nat.le_of_eq rfl) (by decide) (by decide) (by decide) (by decide) ?_
        intro T35 h35 v35_ X35 q35_
        obtain ⟨ys_35, rfl, hy_35, KK35, FF35q0⟩ := q35_
        show OwnGo p e below (T35.setTop (mkF m 374 #[.val (.long q1), .second, .val (.int p2), .val (.int p3), .val (.int p4), .val (.ref b1), .val (.long v142), .second, .val (.int f193_8), .val (.int f177_9), .val (.int f207_s0), .val (.ref b24)] [])) RR
        have Z35 : n0 ≤ h35.size := Nat.le_trans Z34 KK35.1
        have V_b1_35 := (V_b1_34).keep KK35 (ninS ne_b1_b24 nin0)
        have hln11 : ys_35.length = (f193_8).toNatClampNeg := by rw [hy_35, List.length_set]; exact hln10
        have hfl11 : ys_35 = ownFill (f193_8).toNatClampNeg f177_9 f207_s0 v142 11 := by rw [hy_35, hfl10]; exact own_fs _ _ _ _ _ _ rfl (by decide)
        refine own_aload X35 at_374 (pc' := 376) rfl rfl rfl ?_
        refine own_bipush X35 at_376 (pc' := 378) rfl (v := (11 : Int32)) (by decide) ?_
        refine own_iload X35 at_378 (pc' := 380) rfl rfl ?_
        refine own_iload X35 at_380 (pc' := 382) rfl rfl ?_
        refine own_lload X35 at_382 (pc' := 384) rfl rfl ?_
        refine own_aload X35 at_384 (pc' := 386) rfl rfl rfl ?_
        refine own_callS (argsL := [(.ref b24), (.int (11 : Int32)), (.int f177_9), (.int f207_s0), (.long v142), (.ref b1)]) X35 at_386 (y := (⟨"com/example/outcry/outcry/market/CharactersDigitsValuePinLaw", "put", "([CIIIJ[J)V"⟩ : MethodName)) (by decide) (hw _ (List.mem_of_getElem? (i := 22) rfl)) (hw _ (List.mem_of_getElem? (i := 23) rfl)) (hw _ (List.mem_of_getElem? (i := 25) rfl)) (hw _ (List.mem_of_getElem? (i := 24) rfl)) (own_rm1 l Z a0 hw b24 b1 ys_35 (11 : Int32) f177_9 f207_s0 v142 h35 n0 Z35 FF35q0 V_b1_35 g_b24 ne_b1_b24 (by decide) (by rw [hln11]; exact (own_rl _ _ _ hR).2.1) (own_hix _ _ _ _ _ hR (by decide) hln11)) own_pd0 rfl (S := []) rfl (pc' := 389) rfl rfl (W := 0) (Nat.le_of_eq rfl) (by decide) (by decide) (by decide) (by decide) ?_
        intro T36 h36 v36_ X36 q36_
        obtain ⟨ys_36, rfl, hy_36, KK36, FF36q0⟩ := q36_
        show OwnGo p e below (T36.setTop (mkF m 389 #[.val (.long q1), .second, .val (.int p2), .val (.int p3), .val (.int p4), .val (.ref b1), .val (.long v142), .second, .val (.int f193_8), .val (.int f177_9), .val (.int f207_s0), .val (.ref b24)] [])) RR
        have Z36 : n0 ≤ h36.size := Nat.le_trans Z35 KK36.1
        have V_b1_36 := (V_b1_35).keep KK36 (ninS ne_b1_b24 nin0)
        have hln12 : ys_36.length = (f193_8).toNatClampNeg := by rw [hy_36, List.length_set]; exact hln11
        have hfl12 : ys_36 = ownFill (f193_8).toNatClampNeg f177_9 f207_s0 v142 12 := by rw [hy_36, hfl11]; exact own_fs _ _ _ _ _ _ rfl (by decide)
        refine own_aload X36 at_389 (pc' := 391) rfl rfl rfl ?_
        refine own_bipush X36 at_391 (pc' := 393) rfl (v := (12 : Int32)) (by decide) ?_
        refine own_iload X36 at_393 (pc' := 395) rfl rfl ?_
        refine own_iload X36 at_395 (pc' := 397) rfl rfl ?_
        refine own_lload X36 at_397 (pc' := 399) rfl rfl ?_
        refine own_aload X36 at_399 (pc' := 401) rfl rfl rfl ?_
        refine own_callS (argsL := [(.ref b24), (.int (12 : Int32)), (.int f177_9), (.int f207_s0), (.long v142), (.ref b1)]) X36 at_401 (y := (⟨"com/example/outcry/outcry/market/CharactersDigitsValuePinLaw", "put", "([CIIIJ[J)V"⟩ : MethodName)) (by decide) (hw _ (List.mem_of_getElem? (i := 22) rfl)) (hw _ (List.mem_of_getElem? (i := 23) rfl)) (hw _ (List.mem_of_getElem? (i := 25) rfl)) (hw _ (List.mem_of_getElem? (i := 24) rfl)) (own_rm1 l Z a0 hw b24 b1 ys_36 (12 : Int32) f177_9 f207_s0 v142 h36 n0 Z36 FF36q0 V_b1_36 g_b24 ne_b1_b24 (by decide) (by rw [hln12]; exact (own_rl _ _ _ hR).2.1) (own_hix _ _ _ _ _ hR (by decide) hln12)) own_pd0 rfl (S := []) rfl (pc' := 404) rfl rfl (W := 0) (Nat.le_of_eq rfl) (by decide) (by decide) (by decide) (by decide) ?_
        intro T37 h37 v37_ X37 q37_
        obtain ⟨ys_37, rfl, hy_37, KK37, FF37q0⟩ := q37_
        show OwnGo p e below (T37.setTop (mkF m 404 #[.val (.long q1), .second, .val (.int p2), .val (.int p3), .val (.int p4), .val (.ref b1), .val (.long v142), .second, .val (.int f193_8), .val (.int f177_9), .val (.int f207_s0), .val (.ref b24)] [])) RR
        have Z37 : n0 ≤ h37.size := Nat.le_trans Z36 KK37.1
        have V_b1_37 := (V_b1_36).keep KK37 (ninS ne_b1_b24 nin0)
        have hln13 : ys_37.length = (f193_8).toNatClampNeg := by rw [hy_37, List.length_set]; exact hln12
        have hfl13 : ys_37 = ownFill (f193_8).toNatClampNeg f177_9 f207_s0 v142 13 := by rw [hy_37, hfl12]; exact own_fs _ _ _ _ _ _ rfl (by decide)
        refine own_aload X37 at_404 (pc' := 406) rfl rfl rfl ?_
        refine own_bipush X37 at_406 (pc' := 408) rfl (v := (13 : Int32)) (by decide) ?_
        refine own_iload X37 at_408 (pc' := 410) rfl rfl ?_
        refine own_iload X37 at_410 (pc' := 412) rfl rfl ?_
        refine own_lload X37 at_412 (pc' := 414) rfl rfl ?_
        refine own_aload X37 at_414 (pc' := 416) rfl rfl rfl ?_
        refine own_callS (argsL := [(.ref b24), (.int (13 : Int32)), (.int f177_9), (.int f207_s0), (.long v142), (.ref b1)]) X37 at_416 (y := (⟨"com/example/outcry/outcry/market/CharactersDigitsValuePinLaw", "put", "([CIIIJ[J)V"⟩ : MethodName)) (by decide) (hw _ (List.mem_of_getElem? (i := 22) rfl)) (hw _ (List.mem_of_getElem? (i := 23) rfl)) (hw _ (List.mem_of_getElem? (i := 25) rfl)) (hw _ (List.mem_of_getElem? (i := 24) rfl)) (own_rm1 l Z a0 hw b24 b1 ys_37 (13 : Int32) f177_9 f207_s0 v142 h37 n0 Z37 FF37q0 V_b1_37 g_b24 ne_b1_b24 (by decide) (by rw [hln13]; exact (own_rl _ _ _ hR).2.1) (own_hix _ _ _ _ _ hR (by decide) hln13)) own_pd0 rfl (S := []) rfl (pc' := 419) rfl rfl (W := 0) (Nat.le_of_eq rfl) (by decide) (by decide) (by decide) (by decide) ?_
        intro T38 h38 v38_ X38 q38_
        obtain ⟨ys_38, rfl, hy_38, KK38, FF38q0⟩ := q38_
        show OwnGo p e below (T38.setTop (mkF m 419 #[.val (.long q1), .second, .val (.int p2), .val (.int p3), .val (.int p4), .val (.ref b1), .val (.long v142), .second, .val (.int f193_8), .val (.int f177_9), .val (.int f207_s0), .val (.ref b24)] [])) RR
        have Z38 : n0 ≤ h38.size := Nat.le_trans Z37 KK38.1
        have V_b1_38 := (V_b1_37).keep KK38 (ninS ne_b1_b24 nin0)
        have hln14 : ys_38.length = (f193_8).toNatClampNeg := by rw [hy_38, List.length_set]; exact hln13
        have hfl14 : ys_38 = ownFill (f193_8).toNatClampNeg f177_9 f207_s0 v142 14 := by rw [hy_38, hfl13]; exact own_fs _ _ _ _ _ _ rfl (by decide)
        refine own_aload X38 at_419 (pc' := 421) rfl rfl rfl ?_
        refine own_bipush X38 at_421 (pc' := 423) rfl (v := (14 : Int32)) (by decide) ?_
        refine own_iload X38 at_423 (pc' := 425) rfl rfl ?_
        refine own_iload X38 at_425 (pc' := 427) rfl rfl ?_
        refine own_lload X38 at_427 (pc' := 429) rfl rfl ?_
        refine own_aload X38 at_429 (pc' := 431) rfl rfl rfl ?_
        refine own_callS (argsL := [(.ref b24), (.int (14 : Int32)), (.int f177_9), (.int f207_s0), (.long v142), (.ref b1)]) X38 at_431 (y := (⟨"com/example/outcry/outcry/market/CharactersDigitsValuePinLaw", "put", "([CIIIJ[J)V"⟩ : MethodName)) (by decide) (hw _ (List.mem_of_getElem? (i := 22) rfl)) (hw _ (List.mem_of_getElem? (i := 23) rfl)) (hw _ (List.mem_of_getElem? (i := 25) rfl)) (hw _ (List.mem_of_getElem? (i := 24) rfl)) (own_rm1 l Z a0 hw b24 b1 ys_38 (14 : Int32) f177_9 f207_s0 v142 h38 n0 Z38 FF38q0 V_b1_38 g_b24 ne_b1_b24 (by decide) (by rw [hln14]; exact (own_rl _ _ _ hR).2.1) (own_hix _ _ _ _ _ hR (by decide) hln14)) own_pd0 rfl (S := []) rfl (pc' := 434) rfl rfl (W := 0) (Nat.le_of_eq rfl) (by decide) (by decide) (by decide) (by decide) ?_
        intro T39 h39 v39_ X39 q39_
        obtain ⟨ys_39, rfl, hy_39, KK39, FF39q0⟩ := q39_
        show OwnGo p e below (T39.setTop (mkF m 434 #[.val (.long q1), .second, .val (.int p2), .val (.int p3), .val (.int p4), .val (.ref b1), .val (.long v142), .second, .val (.int f193_8), .val (.int f177_9), .val (.int f207_s0), .val (.ref b24)] [])) RR
        have Z39 : n0 ≤ h39.size := Nat.le_trans Z38 KK39.1
        have V_b1_39 := (V_b1_38).keep KK39 (ninS ne_b1_b24 nin0)
        have hln15 : ys_39.length = (f193_8).toNatClampNeg := by rw [hy_39, List.length_set]; exact hln14
        have hfl15 : ys_39 = ownFill (f193_8).toNatClampNeg f177_9 f207_s0 v142 15 := by rw [hy_39, hfl14]; exact own_fs _ _ _ _ _ _ rfl (by decide)
        refine own_aload X39 at_434 (pc' := 436) rfl rfl rfl ?_
        refine own_bipush X39 at_436 (pc' := 438) rfl (v := (15 : Int32)) (by decide) ?_
        refine own_iload X39 at_438 (pc' := 440) rfl rfl ?_
        refine own_iload X39 at_440 (pc' := 442) rfl rfl ?_
        refine own_lload X39 at_442 (pc' := 444) rfl rfl ?_
        refine own_aload X39 at_444 (pc' := 446) rfl rfl rfl ?_
        refine own_callS (argsL := [(.ref b24), (.int (15 : Int32)), (.int f177_9), (.int f207_s0), (.long v142), (.ref b1)]) X39 at_446 (y := (⟨"com/example/outcry/outcry/market/CharactersDigitsValuePinLaw", "put", "([CIIIJ[J)V"⟩ : MethodName)) (by decide) (hw _ (List.mem_of_getElem? (i := 22) rfl)) (hw _ (List.mem_of_getElem? (i := 23) rfl)) (hw _ (List.mem_of_getElem? (i := 25) rfl)) (hw _ (List.mem_of_getElem? (i := 24) rfl)) (own_rm1 l Z a0 hw b24 b1 ys_39 (15 : Int32) f177_9 f207_s0 v142 h39 n0 Z39 FF39q0 V_b1_39 g_b24 ne_b1_b24 (by decide) (by rw [hln15]; exact (own_rl _ _ _ hR).2.1) (own_hix _ _ _ _ _ hR (by decide) hln15)) own_pd0 rfl (S := []) rfl (pc' := 449) rfl rfl (W := 0) (Nat.le_of_eq rfl) (by decide) (by decide) (by decide) (by decide) ?_
        intro T40 h40 v40_ X40 q40_
        obtain ⟨ys_40, rfl, hy_40, KK40, FF40q0⟩ := q40_
        show OwnGo p e below (T40.setTop (mkF m 449 #[.val (.long q1), .second, .val (.int p2), .val (.int p3), .val (.int p4), .val (.ref b1), .val (.long v142), .second, .val (.int f193_8), .val (.int f177_9), .val (.int f207_s0), .val (.ref b24)] [])) RR
        have Z40 : n0 ≤ h40.size := Nat.le_trans Z39 KK40.1
        have V_b1_40 := (V_b1_39).keep KK40 (ninS ne_b1_b24 nin0)
        have hln16 : ys_40.length = (f193_8).toNatClampNeg := by rw [hy_40, List.length_set]; exact hln15
        have hfl16 : ys_40 = ownFill (f193_8).toNatClampNeg f177_9 f207_s0 v142 16 := by rw [hy_40, hfl15]; exact own_fs _ _ _ _ _ _ rfl (by decide)
        refine own_aload X40 at_449 (pc' := 451) rfl rfl rfl ?_
        refine own_bipush X40 at_451 (pc' := 453) rfl (v := (16 : Int32)) (by decide) ?_
        refine own_iload X40 at_453 (pc' := 455) rfl rfl ?_
        refine own_iload X40 at_455 (pc' := 457) rfl rfl ?_
        refine own_lload X40 at_457 (pc' := 459) rfl rfl ?_
        refine own_aload X40 at_459 (pc' := 461) rfl rfl rfl ?_
        refine own_callS (argsL := [(.ref b24), (.int (16 : Int32)), (.int f177_9), (.int f207_s0), (.long v142), (.ref b1)]) X40 at_461 (y := (⟨"com/example/outcry/outcry/market/CharactersDigitsValuePinLaw", "put", "([CIIIJ[J)V"⟩ : MethodName)) (by decide) (hw _ (List.mem_of_getElem? (i := 22) rfl)) (hw _ (List.mem_of_getElem? (i := 23) rfl)) (hw _ (List.mem_of_getElem? (i := 25) rfl)) (hw _ (List.mem_of_getElem? (i := 24) rfl)) (own_rm1 l Z a0 hw b24 b1 ys_40 (16 : Int32) f177_9 f207_s0 v142 h40 n0 Z40 FF40q0 V_b1_40 g_b24 ne_b1_b24 (by decide) (by rw [hln16]; exact (own_rl _ _ _ hR).2.1) (own_hix _ _ _ _ _ hR (by decide) hln16)) own_pd0 rfl (S := []) rfl (pc' := 464) rfl rfl (W := 0) (Nat.le_of_eq rfl) (by decide) (by decide) (by decide) (by decide) ?_
        intro T41 h41 v41_ X41 q41_
        obtain ⟨ys_41, rfl, hy_41, KK41, FF41q0⟩ := q41_
        show OwnGo p e below (T41.setTop (mkF m 464 #[.val (.long q1), .second, .val (.int p2), .val (.int p3), .val (.int p4), .val (.ref b1), .val (.long v142), .second, .val (.int f193_8), .val (.int f177_9), .val (.int f207_s0), .val (.ref b24)] [])) RR
        have Z41 : n0 ≤ h41.size := Nat.le_trans Z40 KK41.1
        have V_b1_41 := (V_b1_40).keep KK41 (ninS ne_b1_b24 nin0)
        have hln17 : ys_41.length = (f193_8).toNatClampNeg := by rw [hy_41, List.length_set]; exact hln16
        have hfl17 : ys_41 = ownFill (f193_8).toNatClampNeg f177_9 f207_s0 v142 17 := by rw [hy_41, hfl16]; exact own_fs _ _ _ _ _ _ rfl (by decide)
        refine own_aload X41 at_464 (pc' := 466) rfl rfl rfl ?_
        refine own_bipush X41 at_466 (pc' := 468) rfl (v := (17 : Int32)) (by decide) ?_
        refine own_iload X41 at_468 (pc' := 470) rfl rfl ?_
        refine own_iload X41 at_470 (pc' := 472) rfl rfl ?_
        refine own_lload X41 at_472 (pc' := 474) rfl rfl ?_
        refine own_aload X41 at_474 (pc' := 476) rfl rfl rfl ?_
        refine own_callS (argsL := [(.ref b24), (.int (17 : Int32)), (.int f177_9), (.int f207_s0), (.long v142), (.ref b1)]) X41 at_476 (y := (⟨"com/example/outcry/outcry/market/CharactersDigitsValuePinLaw", "put", "([CIIIJ[J)V"⟩ : MethodName)) (by decide) (hw _ (List.mem_of_getElem? (i := 22) rfl)) (hw _ (List.mem_of_getElem? (i := 23) rfl)) (hw _ (List.mem_of_getElem? (i := 25) rfl)) (hw _ (List.mem_of_getElem? (i := 24) rfl)) (own_rm1 l Z a0 hw b24 b1 ys_41 (17 : Int32) f177_9 f207_s0 v142 h41 n0 Z41 FF41q0 V_b1_41 g_b24 ne_b1_b24 (by decide) (by rw [hln17]; exact (own_rl _ _ _ hR).2.1) (own_hix _ _ _ _ _ hR (by decide) hln17)) own_pd0 rfl (S := []) rfl (pc' := 479) rfl rfl (W := 0) (Nat.le_of_eq rfl) (by decide) (by decide) (by decide) (by decide) ?_
        intro T42 h42 v42_ X42 q42_
        obtain ⟨ys_42, rfl, hy_42, KK42, FF42q0⟩ := q42_
        show OwnGo p e below (T42.setTop (mkF m 479 #[.val (.long q1), .second, .val (.int p2), .val (.int p3), .val (.int p4), .val (.ref b1), .val (.long v142), .second, .val (.int f193_8), .val (.int f177_9), .val (.int f207_s0), .val (.ref b24)] [])) RR
        have Z42 : n0 ≤ h42.size := Nat.le_trans Z41 KK42.1
        have V_b1_42 := (V_b1_41).keep KK42 (ninS ne_b1_b24 nin0)
        have hln18 : ys_42.length = (f193_8).toNatClampNeg := by rw [hy_42, List.length_set]; exact hln17
        have hfl18 : ys_42 = ownFill (f193_8).toNatClampNeg f177_9 f207_s0 v142 18 := by rw [hy_42, hfl17]; exact own_fs _ _ _ _ _ _ rfl (by decide)
        refine own_aload X42 at_479 (pc' := 481) rfl rfl rfl ?_
        refine own_bipush X42 at_481 (pc' := 483) rfl (v := (18 : Int32)) (by decide) ?_
        refine own_iload X42 at_483 (pc' := 485) rfl rfl ?_
        refine own_iload X42 at_485 (pc' := 487) rfl rfl ?_
        refine own_lload X42 at_487 (pc' := 489) rfl rfl ?_
        refine own_aload X42 at_489 (pc' := 491) rfl rfl rfl ?_
        refine own_callS (argsL := [(.ref b24), (.int (18 : Int32)), (.int f177_9), (.int f207_s0), (.long v142), (.ref b1)]) X42 at_491 (y := (⟨"com/example/outcry/outcry/market/CharactersDigitsValuePinLaw", "put", "([CIIIJ[J)V"⟩ : MethodName)) (by decide) (hw _ (List.mem_of_getElem? (i := 22) rfl)) (hw _ (List.mem_of_getElem? (i := 23) rfl)) (hw _ (List.mem_of_getElem? (i := 25) rfl)) (hw _ (List.mem_of_getElem? (i := 24) rfl)) (own_rm1 l Z a0 hw b24 b1 ys_42 (18 : Int32) f177_9 f207_s0 v142 h42 n0 Z42 FF42q0 V_b1_42 g_b24 ne_b1_b24 (by decide) (by rw [hln18]; exact (own_rl _ _ _ hR).2.1) (own_hix _ _ _ _ _ hR (by decide) hln18)) own_pd0 rfl (S := []) rfl (pc' := 494) rfl rfl (W := 0) (Nat.le_of_eq rfl) (by decide) (by decide) (by decide) (by decide) ?_
        intro T43 h43 v43_ X43 q43_
        obtain ⟨ys_43, rfl, hy_43, KK43, FF43q0⟩ := q43_
        show OwnGo p e below (T43.setTop (mkF m 494 #[.val (.long q1), .second, .val (.int p2), .val (.int p3), .val (.int p4), .val (.ref b1), .val (.long v142), .second, .val (.int f193_8), .val (.int f177_9), .val (.int f207_s0), .val (.ref b24)] [])) RR
        have Z43 : n0 ≤ h43.size := Nat.le_trans Z42 KK43.1
        have V_b1_43 := (V_b1_42).keep KK43 (ninS ne_b1_b24 nin0)
        have hln19 : ys_43.length = (f193_8).toNatClampNeg := by rw [hy_43, List.length_set]; exact hln18
        have hfl19 : ys_43 = ownFill (f193_8).toNatClampNeg f177_9 f207_s0 v142 19 := by rw [hy_43, hfl18]; exact own_fs _ _ _ _ _ _ rfl (by decide)
        refine own_aload X43 at_494 (pc' := 496) rfl rfl rfl ?_
        refine own_callS (argsL := [(.ref b24)]) X43 at_496 (y := (⟨"com/example/outcry/outcry/market/Characters", "digitsValue", "([C)J"⟩ : MethodName)) (by decide) (hw _ (List.mem_of_getElem? (i := 27) rfl)) (hw _ (List.mem_of_getElem? (i := 28) rfl)) (hw _ (List.mem_of_getElem? (i := 30) rfl)) (hw _ (List.mem_of_getElem? (i := 29) rfl)) (own_rm2 l Z a0 hw b24 ys_43 h43 n0 Z43 FF43q0 (by rw [hln19]; exact (own_rl _ _ _ hR).2.1)) own_pd1 rfl (S := []) rfl (pc' := 499) rfl rfl (W := 0) (Nat.le_of_eq rfl) (by decide) (by decide) (by decide) (by decide) ?_
        intro T44 h44 v44_ X44 q44_
        obtain ⟨rfl, rfl⟩ := q44_
        obtain ⟨r44, hr44⟩ : ∃ z, z = (ownFold ys_43 ys_43.length) := ⟨_, rfl⟩
        show OwnGo p e below (T44.setTop (mkF m 499 #[.val (.long q1), .second, .val (.int p2), .val (.int p3), .val (.int p4), .val (.ref b1), .val (.long v142), .second, .val (.int f193_8), .val (.int f177_9), .val (.int f207_s0), .val (.ref b24)] [(.long (ownFold ys_43 ys_43.length))])) RR
        rw [← hr44]
        refine own_lload X44 at_499 (pc' := 501) rfl rfl ?_
        refine own_aload X44 at_501 (pc' := 503) rfl rfl rfl ?_
        refine own_iload X44 at_503 (pc' := 505) rfl rfl ?_
        refine own_laload X44 at_505 V_b1_43 (own_rl _ _ _ hR).2.2.1 (v := (.long (ownP.getD (f207_s0).toNatClampNeg 0))) (own_getJ (xs := ownP) (own_rl _ _ _ hR).2.2.2) (pc' := 506) rfl ?_
        refine own_lrem X44 at_506 (pc' := 507) rfl (own_pne (own_rl _ _ _ hR).2.2.2) ?_
        refine own_ljN X44 at_507 at_508 (own_teqL ((own_last _ _ _ _ _ _ hR (own_vr _ _ hv142) hln19 hfl19 hr44 : r44 = (v142 - (v142 / (ownP.getD (f207_s0).toNatClampNeg 0)) * (ownP.getD (f207_s0).toNatClampNeg 0))))).2 (pc' := 511) rfl ?_
        refine own_iconst X44 at_511 (pc' := 512) rfl (v := (1 : Int32)) (by decide) ?_
        refine own_goto X44 at_512 (pc' := 516) (by decide) (by decide) ?_
        exact own_retZ X44 at_516 (by decide) rfl (by decide) (by decide)
      by_cases hc195 : f177_9 < (0 : Int32)
      · refine own_ifN X20 at_195 (tlt (hc195)).2.1 (pc' := 198) rfl ?_
        refine own_iload X20 at_198 (pc' := 200) rfl rfl ?_
        refine own_goto X20 at_200 (pc' := 207) (by decide) (by decide) ?_
        exact j207_23 _ (by rw [if_pos hc195])
      · refine own_ifY X20 at_195 (flt (hc195)).2.1 (pc' := 203) (by decide) (by decide) ?_
        refine own_iload X20 at_203 (pc' := 205) rfl rfl ?_
        refine own_iconst X20 at_205 (pc' := 206) rfl (v := (1 : Int32)) (by decide) ?_
        refine own_isub X20 at_206 (pc' := 207) rfl ?_
        exact j207_23 _ (by rw [if_neg hc195])
    by_cases hc179 : f177_9 < (0 : Int32)
    · refine own_ifN X20 at_179 (tlt (hc179)).2.1 (pc' := 182) rfl ?_
      refine own_iload X20 at_182 (pc' := 184) rfl rfl ?_
      refine own_bipush X20 at_184 (pc' := 186) rfl (v := (19 : Int32)) (by decide) ?_
      by_cases hc186 : v151 = (19 : Int32)
      · refine own_icN X20 at_186 (teq (hc186)).2 (pc' := 189) rfl ?_
        refine own_bipush X20 at_189 (pc' := 191) rfl (v := (18 : Int32)) (by decide) ?_
        refine own_istore X20 at_191 (pc' := 193) rfl (l' := #[.val (.long q1), .second, .val (.int p2), .val (.int p3), .val (.int p4), .val (.ref b1), .val (.long v142), .second, .val (.int (18 : Int32)), .val (.int f177_9), .unset, .unset]) rfl ?_
        exact j193_22 _ (by rw [if_pos hc179, if_pos hc186])
      · refine own_icY X20 at_186 (feq (hc186)).2 (pc' := 193) (by decide) (by decide) ?_
        exact j193_22 _ (by rw [if_pos hc179, if_neg hc186])
    · refine own_ifY X20 at_179 (flt (hc179)).2.1 (pc' := 193) (by decide) (by decide) ?_
      exact j193_22 _ (by rw [if_neg hc179])
  by_cases hc160 : (p4 &&& (1 : Int32)) = (0 : Int32)
  · refine own_ifY X20 at_160 (teq (hc160)).1 (pc' := 177) (by decide) (by decide) ?_
    exact j177_21 _ (by rw [if_pos hc160])
  · refine own_ifN X20 at_160 (feq (hc160)).1 (pc' := 163) rfl ?_
    refine own_iload X20 at_163 (pc' := 165) rfl rfl ?_
    by_cases hc165 : (0 : Int32) < v151
    · refine own_ifN X20 at_165 (tlt (hc165)).2.2.2 (pc' := 168) rfl ?_
      refine own_iloadN X20 at_168 (pc' := 169) rfl rfl ?_
      refine own_ldcInt X20 at_169 (pc' := 171) rfl (hw _ (List.mem_of_getElem? (i := 20) rfl)) ?_
      refine own_iand X20 at_171 (pc' := 172) rfl ?_
      refine own_iload X20 at_172 (pc' := 174) rfl rfl ?_
      refine own_irem X20 at_174 (pc' := 175) rfl (own_ne0 hc165) ?_
      refine own_istore X20 at_175 (pc' := 177) rfl (l' := #[.val (.long q1), .second, .val (.int p2), .val (.int p3), .val (.int p4), .val (.ref b1), .val (.long v142), .second, .val (.int v151), .val (.int ((p3 &&& (2147483647 : Int32)) % v151)), .unset, .unset]) rfl ?_
      exact j177_21 _ (by rw [if_neg hc160, if_pos hc165])
    · refine own_ifY X20 at_165 (flt (hc165)).2.2.2 (pc' := 177) (by decide) (by decide) ?_
      exact j177_21 _ (by rw [if_neg hc160, if_neg hc165])
set_option maxRecDepth 65536 in
set_option maxHeartbeats 40000000 in
theorem own_comes {Post : Tables → Env → Array Value → State → Outcome → State → Prop} (hpost : ∀ tb e args s v u, (limb_1_1.after args s (.returned v) u = true ∧ limb_1_2.after args s (.returned v) u = true ∧ True) → FrameEnd s (.returned v) u (Jvm.fieldLocs frame_1_writes args s ++ Jvm.arrayLocs frame_1_arrays args s ++ Jvm.staticLocs frame_1_statics s) 16 192 → Post tb e args s (.returned v) u) :
    ArmFor flags0 classFile x code maxLocals ret World_1 tables_1 room_1 Calls_1 rest_1 Pre_1 Post := by
  intro l hfl _ _ p e ha hc hk s m args below hf hA hF happ hP
  obtain ⟨hcalls, hrest, hpre⟩ := hP
  obtain ⟨-, -, -, hnamed, -, -, -, hat⟩ := (Spec.applies_iff hf).mp happ
  obtain ⟨hg, hn⟩ := and_e (Cond.before_iff.mp (show (Jvm.Cond.and given_1 narrow_1).before args s = true from hpre))
  obtain ⟨gc, g0⟩ := and_e hg
  obtain ⟨w0_, g1⟩ := and_e g0
  obtain ⟨w1_, g2⟩ := and_e g1
  obtain ⟨w2_, g3⟩ := and_e g2
  obtain ⟨z0, z1, z2, z3, rfl⟩ : ∃ z0 z1 z2 z3 : Value, args = #[z0, z1, z2, z3] := by
    have hs : args.size = 4 := by simpa [Cond.value, given_1] using gc
    obtain ⟨L⟩ := args
    match L, hs with
    | [z0, z1, z2, z3], _ => exact ⟨z0, z1, z2, z3, rfl⟩
  have hw := fun d (hd : d ∈ tables_1) => atoms_spec (ws := Jvm.Cond.code x code maxLocals ret :: tables_1) hat d (List.mem_cons_of_mem _ hd)
  obtain ⟨i0, ei0⟩ := isL_v w0_
  obtain rfl : z0 = (.long i0) := Option.some.inj ei0
  obtain ⟨i1, ei1⟩ := is_v w1_
  obtain rfl : z1 = (.int i1) := Option.some.inj ei1
  obtain ⟨i2, ei2⟩ := is_v w2_
  obtain rfl : z2 = (.int i2) := Option.some.inj ei2
  obtain ⟨i3, ei3⟩ := is_v g3
  obtain rfl : z3 = (.int i3) := Option.some.inj ei3
  obtain ⟨n, o, h1, h2, h3, _, L, rfl, ⟨⟨rfl, -⟩, N⟩, hq⟩ := own_rm0 l s _ hw i0 i1 i2 i3  s.heap s.heap.size (Nat.le_refl _)  tables_1 p e ha hc hk s m _ below hf ((Spec.applies_iff_loose hf).mp happ).1 ⟨rfl, State.Warmed39.refl s, rfl⟩ trivial
  exact ⟨n, _, h1, h2, h3, hpost _ _ _ _ _ _ ⟨Cond.after_iff.mpr rfl, Cond.after_iff.mpr (eq_i res_at (Term.int_eval (1)) rfl), trivial⟩ ⟨hq.1, hq.2.1, (hq.2.2.sift fun y hy => Or.inr (N y hy)).mono (by decide) (by decide)⟩⟩
theorem main_1_1 : Claimed_1_1 := own_comes fun _ _ _ _ _ _ h hF => ⟨h.1, hF⟩
theorem main_1_2 : Claimed_1_2 := own_comes fun _ _ _ _ _ _ h hF => ⟨h.2.1, hF⟩
end Jvm.Pilot.@@N@@
namespace Jvm.Pilot.@@N@@
open Jvm Jvm.ClassFile Sem Op Lib Jvm.Free Jvm.Stand Jvm.Pilot.@@N@@.Jvm.D
/-! MADE BY PROGRAM (witnessworld.py) out of the Statement's table words and the real class files: 13 classes; the members and pool entries that the words name. The judged class is class 1, her method 1. -/
namespace start1
open Jvm.ClassFile
def u (s : String) : CpInfo := .utf8 (stringToUtf16 s)
/-- a pool by its gaps: so many unusable entries, then the entry; so many at the end -/
def gap : Nat → List CpInfo → List CpInfo
  | 0, r => r
  | n + 1, r => .unusable :: gap n r
def poolList (es : List (Nat × CpInfo)) (last : Nat) : List CpInfo := es.foldr (fun e r => gap e.1 (e.2 :: r)) (gap last [])
def pool (es : List (Nat × CpInfo)) (last : Nat) : Array CpInfo := ⟨poolList es last⟩
def fileOf (pool : Array CpInfo) (this : Nat) (attrs : Array Attribute := #[]) (ms : Array MethodInfo := #[]) (fl : Nat := 33) (sup : Nat := 0) (ifs : Array Nat := #[]) (fds : Array FieldInfo := #[]) : ClassFile where
  minorVersion := 0
  majorVersion := 65
  constantPool := pool
  accessFlags := fl
  thisClass := this
  superClass := sup
  interfaces := ifs
  fields := fds
  methods := ms
  attributes := attrs
def plain (name : String) (sup : Option ClassId) : Class where
  name := name
  kind := .ordinary
  loader := none
  accessFlags := 33
  super := sup
  interfaces := #[]
  cf := none
  fields := #[]
  methods := #[]
  instanceTypes := #[]
  staticTypes := #[]
  resolved := #[]
  callSites := []
  init := .initialized
  statics := none
  mirror := none

def pool0 : Array CpInfo := pool [(5, u "<init>"), (0, u "()V"), (1, .class_ 10), (1, u "java/lang/Object")] 113

def k0m0 : Method := { name := "<init>", desc := "()V", sig := { parameters := [], returnType := none }, accessFlags := 1, code := none }
/-- java/lang/Object -/
def k0 : Class := { plain "java/lang/Object" none with
  accessFlags := 33
  interfaces := #[]
  cf := some (fileOf pool0 8 #[] #[{ accessFlags := 1, nameIndex := 5, descriptorIndex := 6, attributes := #[] }] 33 0 #[] #[])
  fields := #[]
  methods := #[k0m0]
  instanceTypes := #[]
  staticTypes := #[]
  resolved := Array.replicate 124 none
  statics := none }

def pool1 : Array CpInfo := pool [(2, .class_ 4), (1, u "java/lang/Object"), (0, u "<init>"), (0, u "()V"), (0, .long 10), (1, .long 100), (1, .long 1000), (1, .long 10000), (1, .long 100000), (1, .long 1000000), (1, .long 10000000), (1, .long 100000000), (1, .long 1000000000), (1, .long 10000000000), (1, .long 100000000000), (1, .long 1000000000000), (1, .long 10000000000000), (1, .long 100000000000000), (1, .long 1000000000000000), (1, .long 10000000000000000), (1, .long 100000000000000000), (1, .long 1000000000000000000), (3, .long 9223372036854775807), (1, .integer 2147483647), (0, .methodref 49 50), (0, .class_ 51), (0, .nameAndType 52 53), (0, u "com/example/outcry/outcry/market/CharactersDigitsValuePinLaw"), (0, u "put"), (0, u "([CIIIJ[J)V"), (0, .methodref 55 56), (0, .class_ 57), (0, .nameAndType 58 59), (0, u "com/example/outcry/outcry/market/Characters"), (0, u "digitsValue"), (0, u "([C)J"), (0, .long 48), (3, u "law"), (0, u "(JIII)Z")] 7

def k1m0 : Method := { name := "<init>", desc := "()V", sig := { parameters := [], returnType := none }, accessFlags := 1, code := none }
def k1c1 : Code := { maxStack := 7, maxLocals := 12, code := code, exceptionTable := #[], attributes := #[] }
def k1m1 : Method := { name := "law", desc := "(JIII)Z", sig := { parameters := [.long, .int, .int, .int], returnType := some .boolean }, accessFlags := 9, code := some k1c1 }
def k1c2 : Code := { maxStack := 9, maxLocals := 8, code := method_3_code, exceptionTable := #[], attributes := #[] }
def k1m2 : Method := { name := "put", desc := "([CIIIJ[J)V", sig := { parameters := [(.array .char), .int, .int, .int, .long, (.array .long)], returnType := none }, accessFlags := 10, code := some k1c2 }
/-- com/example/outcry/outcry/market/CharactersDigitsValuePinLaw -/
def k1 : Class := { plain "com/example/outcry/outcry/market/CharactersDigitsValuePinLaw" (some 0) with
  accessFlags := 49
  interfaces := #[]
  cf := some (fileOf pool1 49 #[] #[{ accessFlags := 1, nameIndex := 5, descriptorIndex := 6, attributes := #[] }, { accessFlags := 9, nameIndex := 64, descriptorIndex := 65, attributes := #[] }, { accessFlags := 10, nameIndex := 52, descriptorIndex := 53, attributes := #[] }] 49 2 #[] #[])
  fields := #[]
  methods := #[k1m0, k1m1, k1m2]
  instanceTypes := #[]
  staticTypes := #[]
  resolved := Array.replicate 73 none
  statics := none }

def pool2 : Array CpInfo := pool [(2, .class_ 4), (1, u "java/lang/Object"), (0, u "<init>"), (0, u "()V"), (7, .class_ 16), (1, u "com/example/outcry/outcry/market/Characters"), (6, .long 10), (1, u "LONG_DIGITS"), (0, u "I"), (9, u "digitsValue"), (0, u "([C)J")] 3

def k2m0 : Method := { name := "<init>", desc := "()V", sig := { parameters := [], returnType := none }, accessFlags := 2, code := none }
def k2c1 : Code := { maxStack := 4, maxLocals := 7, code := prog_13_method_4_code, exceptionTable := #[], attributes := #[] }
def k2m1 : Method := { name := "digitsValue", desc := "([C)J", sig := { parameters := [(.array .char)], returnType := some .long }, accessFlags := 8, code := some k2c1 }
/-- com/example/outcry/outcry/market/Characters -/
def k2 : Class := { plain "com/example/outcry/outcry/market/Characters" (some 0) with
  accessFlags := 48
  interfaces := #[]
  cf := some (fileOf pool2 14 #[] #[{ accessFlags := 2, nameIndex := 5, descriptorIndex := 6, attributes := #[] }, { accessFlags := 8, nameIndex := 36, descriptorIndex := 37, attributes := #[] }] 48 2 #[] #[{ accessFlags := 24, nameIndex := 25, descriptorIndex := 26, attributes := #[] }])
  fields := #[{ name := "LONG_DIGITS", type := .int, accessFlags := 24, slot := 0, constantValue := 0 }]
  methods := #[k2m0, k2m1]
  instanceTypes := #[]
  staticTypes := #[.int]
  resolved := Array.replicate 41 none
  statics := none }

def pool3 : Array CpInfo := pool [(1, u "java/lang/Cloneable"), (0, .class_ 1), (0, u "java/lang/Object"), (0, .class_ 3)] 3

/-- java/lang/Cloneable -/
def k3 : Class := { plain "java/lang/Cloneable" (some 0) with
  accessFlags := 1537
  interfaces := #[]
  cf := some (fileOf pool3 2 #[] #[] 1537 4 #[] #[])
  fields := #[]
  methods := #[]
  instanceTypes := #[]
  staticTypes := #[]
  resolved := Array.replicate 8 none
  statics := none }

def pool4 : Array CpInfo := pool [(1, u "java/io/Serializable"), (0, .class_ 1), (0, u "java/lang/Object"), (0, .class_ 3)] 3

/-- java/io/Serializable -/
def k4 : Class := { plain "java/io/Serializable" (some 0) with
  accessFlags := 1537
  interfaces := #[]
  cf := some (fileOf pool4 2 #[] #[] 1537 4 #[] #[])
  fields := #[]
  methods := #[]
  instanceTypes := #[]
  staticTypes := #[]
  resolved := Array.replicate 8 none
  statics := none }

/-- the primitive byte -/
def k5 : Class := { plain "byte" none with kind := .primitive 'B', accessFlags := 0x411 }
/-- [B -/
def k6 : Class := { plain "[B" (some 0) with kind := .array 5 .byte, interfaces := #[3, 4], accessFlags := 1041 }

/-- the primitive char -/
def k7 : Class := { plain "char" none with kind := .primitive 'C', accessFlags := 0x411 }
/-- [C -/
def k8 : Class := { plain "[C" (some 0) with kind := .array 7 .char, interfaces := #[3, 4], accessFlags := 1041 }

/-- the primitive int -/
def k9 : Class := { plain "int" none with kind := .primitive 'I', accessFlags := 0x411 }
/-- [I -/
def k10 : Class := { plain "[I" (some 0) with kind := .array 9 .int, interfaces := #[3, 4], accessFlags := 1041 }

/-- the primitive long -/
def k11 : Class := { plain "long" none with kind := .primitive 'J', accessFlags := 0x411 }
/-- [J -/
def k12 : Class := { plain "[J" (some 0) with kind := .array 11 .long, interfaces := #[3, 4], accessFlags := 1041 }

def heap : Heap := #[]
def classes : Array Class := #[k0, k1, k2, k3, k4, k5, k6, k7, k8, k9, k10, k11, k12]
def interned : List (Array UInt16 × Addr) := []
def slotsUsed : Nat := 0
def theMethod : MethodId := ⟨1, 1⟩
def args0 : Array Value := #[.long 5, .int 5, .int 1, .int 1]
def aboutOver (below : List Frame) : State where
  vm := { classes := classes, interned := interned.toArray }
  heap := heap
  slotsUsed := slotsUsed
  threads := #[{ frames := .invoking theMethod args0 :: below }]
def below0 : List Frame := [.native { method := ⟨0, 0⟩, args := #[] }]
def about1 : State := aboutOver below0
def p0 : Program := .bare "" "" ""
def e0 : Env := launch0.env 0 0 0
theorem w_frames : about1.frames = Frame.invoking theMethod args0 :: below0 := rfl
set_option maxRecDepth 65536 in
theorem w_args : argsFit about1.vm theMethod args0 = true := by decide +kernel
set_option maxRecDepth 65536 in
theorem w_heap : heapFits about1 = true := by decide +kernel
set_option maxRecDepth 65536 in
theorem w_runnable : about1.curStatus? = some .runnable := by decide +kernel
set_option maxRecDepth 65536 in
theorem w_alone : about1.alone = true := by decide +kernel
set_option maxRecDepth 65536 in
theorem w_named : about1.methodNamed? x = some theMethod := by decide +kernel
set_option maxRecDepth 65536 in
theorem w_hears : about1.hears theMethod below0 = true := by decide +kernel
set_option maxRecDepth 65536 in
theorem w_ripe : about1.ripe theMethod args0 below0 = true := by decide +kernel
theorem w_running : about1.status = .running := rfl
set_option maxRecDepth 65536 in
theorem w_room : about1.hasRoom e0.platform room_1 = true :=
  launch0.hasRoom_least _ room_1 (by decide +kernel) (by decide +kernel) (by decide +kernel) (by decide +kernel) (by decide +kernel) (by decide +kernel)
theorem allAtoms_all (ts : List Jvm.Cond) (a : Array Jvm.Value) (st : Jvm.State) : (allAtoms ts).before a st = ts.all (fun c => c.before a st) := by
  induction ts with
  | nil => rfl
  | cons c t ih =>
    show (Jvm.Cond.and c (allAtoms t)).before a st = _
    rw [Jvm.Cond.before_and, ih, List.all_cons]
def words1 : List Jvm.Cond := Jvm.Cond.code x code maxLocals ret :: tables_1
/-- a 'code' word, met by the world's own term for the bytes: nothing is compared byte by byte -/
theorem code_word {y : MethodName} {bytes : ByteArray} {mx : Nat} {rt : Option FieldType} {a : Array Value} {s : State} {m : MethodId} {meth : Method} {c : Code} (h1 : s.methodNamed? y = some m) (h2 : s.vm.method? m = some meth) (h3 : meth.code = some c) (h4 : c.code = bytes)
    (h5 : (c.maxLocals == mx && c.exceptionTable.isEmpty && decide (c.maxStack ≤ mostOperands) && decide (meth.sig.returnType = rt) && !meth.locks && decide (parseMethodDescriptor y.desc = some meth.sig)) = true) : (Jvm.Cond.code y bytes mx rt).before a s = true := by
  simp only [Bool.and_eq_true, beq_iff_eq, Bool.not_eq_true', decide_eq_true_eq] at h5
  obtain ⟨⟨⟨⟨⟨g1, g2⟩, g3⟩, g4⟩, g5⟩, g6⟩ := h5
  simp [Cond.before, Cond.holds, Cond.value, h1, h2, h3, h4, g1, g2, g3, g4, g5, g6]
def isCode : Jvm.Cond → Bool
  | .code _ _ _ _ => true
  | _ => false
theorem all_split {L : List Jvm.Cond} {P : Jvm.Cond → Bool} (h1 : L.all (fun c => isCode c || P c) = true) (h2 : ∀ c ∈ L.filter isCode, P c = true) : L.all P = true := by
  refine List.all_eq_true.mpr fun c hc => ?_
  have h := List.all_eq_true.mp h1 c hc
  rcases Bool.eq_false_or_eq_true (isCode c) with hi | hi
  · exact h2 c (List.mem_filter.mpr ⟨hc, hi⟩)
  · simpa [hi] using h
set_option maxRecDepth 65536 in
theorem w_c0 : (Jvm.Cond.code x code maxLocals ret).before args0 about1 = true := code_word (m := ⟨1, 1⟩) (meth := k1m1) (c := k1c1) (by decide +kernel) rfl rfl rfl (by decide +kernel)
set_option maxRecDepth 65536 in
theorem w_c1 : (Jvm.Cond.code ({ cls := "com/example/outcry/outcry/market/CharactersDigitsValuePinLaw", name := "put", desc := "([CIIIJ[J)V" } : Jvm.MethodName) method_3_code (8 : Nat) (Option.none : Option Jvm.ClassFile.FieldType)).before args0 about1 = true := code_word (m := ⟨1, 2⟩) (meth := k1m2) (c := k1c2) (by decide +kernel) rfl rfl rfl (by decide +kernel)
set_option maxRecDepth 65536 in
theorem w_c2 : (Jvm.Cond.code ({ cls := "com/example/outcry/outcry/market/Characters", name := "digitsValue", desc := "([C)J" } : Jvm.MethodName) prog_13_method_4_code (7 : Nat) (Option.some Jvm.ClassFile.FieldType.long)).before args0 about1 = true := code_word (m := ⟨2, 1⟩) (meth := k2m1) (c := k2c1) (by decide +kernel) rfl rfl rfl (by decide +kernel)
def codes1 : List Jvm.Cond := [Jvm.Cond.code x code maxLocals ret, Jvm.Cond.code ({ cls := "com/example/outcry/outcry/market/CharactersDigitsValuePinLaw", name := "put", desc := "([CIIIJ[J)V" } : Jvm.MethodName) method_3_code (8 : Nat) (Option.none : Option Jvm.ClassFile.FieldType), Jvm.Cond.code ({ cls := "com/example/outcry/outcry/market/Characters", name := "digitsValue", desc := "([C)J" } : Jvm.MethodName) prog_13_method_4_code (7 : Nat) (Option.some Jvm.ClassFile.FieldType.long)]
set_option maxRecDepth 65536 in
theorem codes_eq : words1.filter isCode = codes1 := rfl
theorem w_codes : ∀ c ∈ words1.filter isCode, c.before args0 about1 = true := by
  rw [codes_eq]
  intro c hc
  simp only [codes1, List.mem_cons, List.not_mem_nil, or_false] at hc
  rcases hc with rfl | rfl | rfl
  · exact w_c0
  · exact w_c1
  · exact w_c2
set_option maxRecDepth 65536 in
theorem w_t1 : (words1.take 24).all (fun c => isCode c || c.before args0 about1) = true := by decide +kernel
set_option maxRecDepth 65536 in
theorem w_t2 : (words1.drop 24).all (fun c => isCode c || c.before args0 about1) = true := by decide +kernel
theorem w_tables : (allAtoms (Jvm.Cond.code x code maxLocals ret :: tables_1)).before args0 about1 = true := by
  rw [allAtoms_all]
  show words1.all (fun c => c.before args0 about1) = true
  refine all_split ?_ w_codes
  rw [← List.take_append_drop 24 words1, List.all_append, w_t1, w_t2]
  rfl
set_option maxRecDepth 65536 in
theorem w_case : (Jvm.Cond.and given_1 narrow_1).before args0 about1 = true := by decide +kernel
theorem w_applies : (headSpec (Jvm.Cond.code x code maxLocals ret :: tables_1) room_1).applies x e0.platform about1 = true :=
  (Spec.applies_iff w_frames).mpr ⟨w_running, w_runnable, w_alone, w_named, w_hears, w_ripe, w_room, w_tables⟩
theorem atStart : AtStart classFile x code maxLocals ret World_1 tables_1 room_1 Calls_1 rest_1 Pre_1 launch0 p0 e0 about1 theMethod args0 below0 :=
  ⟨lists_1, trivial, launch0.admits_env _ _ _, launch0.least_env, fairChoices_fair.cas, fairChoices_fair.clock, w_frames, w_args, w_heap, w_applies, trivial, trivial, w_case⟩
end start1
theorem witness_1 : WitnessClaimed_1 := ⟨start1.p0, start1.e0, start1.about1, start1.theMethod, start1.args0, start1.below0, start1.atStart⟩
end Jvm.Pilot.@@N@@
