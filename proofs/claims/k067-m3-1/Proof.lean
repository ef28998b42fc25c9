import JvmDerived
import JvmDerived.Pilot.@@N@@Statement
import JvmDerived.Pilot.@@N@@Code
set_option linter.unusedVariables false
set_option linter.unusedSimpArgs false
namespace Jvm.Pilot.@@N@@
open Jvm Jvm.ClassFile Sem Op Lib Jvm.Free Jvm.Stand Jvm.LawKit Jvm.RoadKit Bundle Jvm.Pilot.@@N@@.Jvm.D
/-! ## own kit: one walk of a body in continuation style; the library's step laws of one family behind it -/
section OwnKit
variable {p : Program} {l : Launch} {e : Env} {R : Room} {s : State} {m : MethodId} {args : Array Value} {below : List Frame} {meth : Method} {c : Code} {Z : State} {own : String} {bytes : ByteArray} {maxL : Nat} {ret : Option FieldType} {nm : String} {n0 km : Nat} {Q : Option Value → Heap → Prop} {RR : State → Outcome → Prop} {T : State} {h : Heap} {cells slots : Nat} {a0 : Array Value} {pc pc' : Nat} {Ls : Array Slot} {S : List Value}
def OwnGo (p : Program) (e : Env) (below : List Frame) (S : State) (RR : State → Outcome → Prop) : Prop :=
  ∃ s₂ o, Steps p.tables e below S s₂ ∧ s₂.status = .running ∧ Ended s₂ below o ∧ RR s₂ o
theorem own_step {S S' : State} (k : OwnGo p e below S' RR) (h : ∀ t, Steps p.tables e below S' t → Steps p.tables e below S t) : OwnGo p e below S RR := by
  obtain ⟨s₂, o, h1, h2⟩ := k
  exact ⟨s₂, o, h _ h1, h2⟩
/-- the context of one body: what holds all along its walk -/
def OwnCx (p : Program) (l : Launch) (e : Env) (R : Room) (s : State) (m : MethodId) (meth : Method) (c : Code) (Z : State) (own : String) (bytes : ByteArray) (maxL : Nat) (ret : Option FieldType) (nm : String) (n0 km : Nat) (Q : Option Value → Heap → Prop) (RR : State → Outcome → Prop) : Prop :=
  p.tables.exec = Jvm.exec ∧ c.code = bytes ∧ c.maxLocals = maxL ∧ Z.Warmed39 s.vm ∧ s.vm.findClass own = some m.cls ∧ meth.name = nm ∧ meth.sig.returnType = ret ∧ meth.locks = false ∧
  ∀ (U : State) (v : Option Value) (L : List Loc), Q v U.heap → km ≤ U.heap.size → Fr n0 L → s.WarmedH U.vm → s.sameButNew ({ U with vm := s.vm } : State) L R.cells R.slots → RR U (.returned v)
/-- where the walk stands: the state T, its heap h, so many cells and slots made -/
def OwnSt (p : Program) (l : Launch) (e : Env) (R : Room) (s : State) (m : MethodId) (args : Array Value) (below : List Frame) (meth : Method) (c : Code) (Z : State) (own : String) (bytes : ByteArray) (maxL : Nat) (ret : Option FieldType) (nm : String) (n0 km : Nat) (Q : Option Value → Heap → Prop) (RR : State → Outcome → Prop) (T : State) (h : Heap) (cells slots : Nat) : Prop :=
  OwnCx p l e R s m meth c Z own bytes maxL ret nm n0 km Q RR ∧ T.heap = h ∧ km ≤ h.size ∧ ∃ locs, Stand p l e R s m args below meth c T locs cells slots ∧ Fr n0 locs
/-- a body's contract: called with these arguments at the heap h it returns v and leaves a heap, with Q -/
def OwnMet (l : Launch) (Z : State) (y : MethodName) (bytes : ByteArray) (maxL : Nat) (ret : Option FieldType) (rm : Room) (as' : Array Value) (h : Heap) (n0 : Nat) (Q : Option Value → Heap → Prop) : Prop :=
  ∀ ws : List Jvm.Cond, MetFree l y (head1 (Jvm.Cond.code y bytes maxL ret :: ws) rm) (fun a U => a = as' ∧ Z.Warmed39 U.vm ∧ U.heap = h) (fun _ _ _ _ _ => True) (fun _ U o U' => ∃ v L, o = .returned v ∧ ((Q v U'.heap ∧ h.size ≤ U'.heap.size) ∧ Fr n0 L) ∧ FrameEnd U o U' L rm.cells rm.slots)
theorem own_body {y : MethodName} {rm : Room} {as' : Array Value} (hpl : plainFor y = true)
    (body : ∀ (p : Program) (e : Env) (s : State) (m : MethodId) (below : List Frame) (meth : Method) (c : Code) (s₁ : State) (RR : State → Outcome → Prop), OwnSt p l e rm s m as' below meth c Z y.cls bytes maxL ret y.name n0 0 Q RR s₁ h 0 0 → OwnGo p e below (s₁.setTop (entryFrame m as' maxL)) RR) :
    OwnMet l Z y bytes maxL ret rm as' h n0 Q := by
  intro ws
  refine MetFree.of_bodySF hpl hisR ?_
  intro p e s m args below meth c s₁ Bd hml0 hP hK
  obtain ⟨rfl, hZ, hh⟩ := hP
  refine body p e s m below meth c s₁ _ ⟨⟨Bd.exec, Bd.bytes, hml0, hZ, findClass_of_methodNamed Bd.named, (name_of_methodNamed Bd.named Bd.method).1, Bd.returns, Bd.notSynchronized, ?_⟩, by rw [← hh, Bd.state]; rfl, Nat.zero_le _, [], Stand.of_body Bd, Fr.nil n0⟩
  intro U v L hQ _ hN hW hs
  exact ⟨v, L, rfl, ⟨⟨hQ, by rw [← hh]; exact hs.2.1⟩, hN⟩, ⟨_, rfl⟩, hW, hs⟩
theorem own_enter {g g' : JFrame} (q : g = g') (k : OwnGo p e below (T.setTop g') RR) : OwnGo p e below (T.setTop g) RR := q ▸ k
theorem own_ret {v : Option Value} {g : State} (X : OwnSt p l e R s m args below meth c Z own bytes maxL ret nm n0 km Q RR T h cells slots) (hv : ret = none → v = none) (hQ : Q v h) (hc : cells ≤ R.cells) (hl : slots ≤ R.slots)
    (k : ∀ locs, Stand p l e R s m args below meth c T locs cells slots → ∀ fs, (∀ (f : JFrame) (acts : List Action), f.method = m → f.locked = none → f.entered = [] → (doReturn e (T.setTop f) acts v).1 = T.setFrames fs) → Steps p.tables e below g (T.setFrames fs)) : OwnGo p e below g RR := by
  obtain ⟨⟨hx, hby, hml, hZ, hown, hnm, hret, hlk, hR⟩, hh, hkm, locs, X0, N⟩ := X
  obtain ⟨fs, hr, hrun, hended, hW, hsame⟩ := X0.leave (v := v) (fun q => hv (hret ▸ q)) hlk
  exact ⟨_, _, k _ X0 fs hr, hrun, hended, hR _ _ _ (by show Q v T.heap; rw [hh]; exact hQ) (by show km ≤ T.heap.size; rw [hh]; exact hkm) N hW (hsame.mono hc hl)⟩
theorem own_retV (X : OwnSt p l e R s m args below meth c Z own bytes maxL none nm n0 km Q RR T h cells slots) (hd : decode bytes pc = .ok (.return_, 1)) (hQ : Q none h) (hc : cells ≤ R.cells) (hl : slots ≤ R.slots) : OwnGo p e below (T.setTop (mkF m pc Ls [])) RR := by
  refine own_ret X (fun _ => rfl) hQ hc hl fun locs X0 fs hr => ?_
  obtain ⟨⟨hx, hby, hml, hZ, hown, hnm, hret, hlk, hR⟩, hh, -⟩ := X
  exact X0.returnOut hx hret (hb hby hd) hr
theorem own_retI {z : Int32} {rest : List Value} (X : OwnSt p l e R s m args below meth c Z own bytes maxL (some .int) nm n0 km Q RR T h cells slots) (hd : decode bytes pc = .ok (.ireturn, 1)) (hQ : Q (some (.int z)) h) (hc : cells ≤ R.cells) (hl : slots ≤ R.slots) : OwnGo p e below (T.setTop (mkF m pc Ls (.int z :: rest))) RR := by
  refine own_ret X (fun q => nomatch q) hQ hc hl fun locs X0 fs hr => ?_
  obtain ⟨⟨hx, hby, hml, hZ, hown, hnm, hret, hlk, hR⟩, hh, -⟩ := X
  exact retOut X0 hx hret rfl (Or.inl ⟨rfl, Or.inl rfl, z, rfl⟩) (hb hby hd) hr
theorem own_retJ {z : Int64} {rest : List Value} (X : OwnSt p l e R s m args below meth c Z own bytes maxL (some .long) nm n0 km Q RR T h cells slots) (hd : decode bytes pc = .ok (.lreturn, 1)) (hQ : Q (some (.long z)) h) (hc : cells ≤ R.cells) (hl : slots ≤ R.slots) : OwnGo p e below (T.setTop (mkF m pc Ls (.long z :: rest))) RR := by
  refine own_ret X (fun q => nomatch q) hQ hc hl fun locs X0 fs hr => ?_
  obtain ⟨⟨hx, hby, hml, hZ, hown, hnm, hret, hlk, hR⟩, hh, -⟩ := X
  exact retOut X0 hx hret rfl (Or.inr (Or.inl ⟨rfl, rfl, z, rfl⟩)) (hb hby hd) hr
theorem own_retA {v : Value} {t : FieldType} {rest : List Value} (X : OwnSt p l e R s m args below meth c Z own bytes maxL (some t) nm n0 km Q RR T h cells slots) (ht : t.isReference = true) (hv : v.isRef = true) (hn : narrow t v = v) (hd : decode bytes pc = .ok (.areturn, 1)) (hQ : Q (some v) h) (hc : cells ≤ R.cells) (hl : slots ≤ R.slots) : OwnGo p e below (T.setTop (mkF m pc Ls (v :: rest))) RR := by
  refine own_ret X (fun q => nomatch q) hQ hc hl fun locs X0 fs hr => ?_
  obtain ⟨⟨hx, hby, hml, hZ, hown, hnm, hret, hlk, hR⟩, hh, -⟩ := X
  exact retOut X0 hx hret hn (Or.inr (Or.inr (Or.inr (Or.inr ⟨rfl, ht, hv⟩)))) (hb hby hd) hr
theorem own_retZ {z : Int32} {rest : List Value} (X : OwnSt p l e R s m args below meth c Z own bytes maxL (some .boolean) nm n0 km Q RR T h cells slots) (hd : decode bytes pc = .ok (.ireturn, 1)) (hz : z &&& 1 = z) (hQ : Q (some (.int z)) h) (hc : cells ≤ R.cells) (hl : slots ≤ R.slots) : OwnGo p e below (T.setTop (mkF m pc Ls (.int z :: rest))) RR := by
  refine own_ret X (fun q => nomatch q) hQ hc hl fun locs X0 fs hr => ?_
  obtain ⟨⟨hx, hby, hml, hZ, hown, hnm, hret, hlk, hR⟩, hh, -⟩ := X
  exact retOut X0 hx hret (by show Value.int (z &&& 1) = _; rw [hz]) (Or.inl ⟨rfl, Or.inr (Or.inl rfl), z, rfl⟩) (hb hby hd) hr
theorem OwnSt.here (X : OwnSt p l e R s m args below meth c Z own bytes maxL ret nm n0 km Q RR T h cells slots) : At T m c below := X.2.2.2.elim fun _ q => q.1.here
theorem OwnSt.hx (X : OwnSt p l e R s m args below meth c Z own bytes maxL ret nm n0 km Q RR T h cells slots) : p.tables.exec = Jvm.exec := X.1.1
theorem OwnSt.by' (X : OwnSt p l e R s m args below meth c Z own bytes maxL ret nm n0 km Q RR T h cells slots) : c.code = bytes := X.1.2.1
theorem OwnSt.hZ (X : OwnSt p l e R s m args below meth c Z own bytes maxL ret nm n0 km Q RR T h cells slots) : Z.Warmed39 s.vm := X.1.2.2.2.1
theorem own_aloadN {k : Fin 4} {v : Value} (X : OwnSt p l e R s m args below meth c Z own bytes maxL ret nm n0 km Q RR T h cells slots) (hd : decode bytes pc = .ok (.aload_n k, 1)) (hp : pc + 1 = pc') (hl : Ls[k.val]? = some (.val v)) (hv : v.isRef = true) (k : OwnGo p e below (T.setTop (mkF m pc' Ls (v :: S))) RR) : OwnGo p e below (T.setTop (mkF m pc Ls (S))) RR := by
  subst hp
  exact own_step k fun t k => XS.aloadN X.here X.hx rfl (hb X.by' hd) hl hv k
theorem own_aload {k : Nat} {v : Value} (X : OwnSt p l e R s m args below meth c Z own bytes maxL ret nm n0 km Q RR T h cells slots) (hd : decode bytes pc = .ok (.aload k, 2)) (hp : pc + 2 = pc') (hl : Ls[k]? = some (.val v)) (hv : v.isRef = true) (k : OwnGo p e below (T.setTop (mkF m pc' Ls (v :: S))) RR) : OwnGo p e below (T.setTop (mkF m pc Ls (S))) RR := by
  subst hp
  exact own_step k fun t k => XS.aload X.here X.hx rfl (hb X.by' hd) hl hv k
theorem own_iloadN {k : Fin 4} {v : Int32} (X : OwnSt p l e R s m args below meth c Z own bytes maxL ret nm n0 km Q RR T h cells slots) (hd : decode bytes pc = .ok (.iload_n k, 1)) (hp : pc + 1 = pc') (hl : Ls[k.val]? = some (.val (.int v))) (k : OwnGo p e below (T.setTop (mkF m pc' Ls (.int v :: S))) RR) : OwnGo p e below (T.setTop (mkF m pc Ls (S))) RR := by
  subst hp
  exact own_step k fun t k => XS.iloadN X.here X.hx rfl (hb X.by' hd) hl k
theorem own_iload {k : Nat} {v : Int32} (X : OwnSt p l e R s m args below meth c Z own bytes maxL ret nm n0 km Q RR T h cells slots) (hd : decode bytes pc = .ok (.iload k, 2)) (hp : pc + 2 = pc') (hl : Ls[k]? = some (.val (.int v))) (k : OwnGo p e below (T.setTop (mkF m pc' Ls (.int v :: S))) RR) : OwnGo p e below (T.setTop (mkF m pc Ls (S))) RR := by
  subst hp
  exact own_step k fun t k => XS.iload X.here X.hx rfl (hb X.by' hd) hl k
theorem own_lloadN {k : Fin 4} {v : Int64} (X : OwnSt p l e R s m args below meth c Z own bytes maxL ret nm n0 km Q RR T h cells slots) (hd : decode bytes pc = .ok (.lload_n k, 1)) (hp : pc + 1 = pc') (hl : Ls[k.val]? = some (.val (.long v))) (k : OwnGo p e below (T.setTop (mkF m pc' Ls (.long v :: S))) RR) : OwnGo p e below (T.setTop (mkF m pc Ls (S))) RR := by
  subst hp
  exact own_step k fun t k => XS.lloadN X.here X.hx rfl (hb X.by' hd) hl k
theorem own_lload {k : Nat} {v : Int64} (X : OwnSt p l e R s m args below meth c Z own bytes maxL ret nm n0 km Q RR T h cells slots) (hd : decode bytes pc = .ok (.lload k, 2)) (hp : pc + 2 = pc') (hl : Ls[k]? = some (.val (.long v))) (k : OwnGo p e below (T.setTop (mkF m pc' Ls (.long v :: S))) RR) : OwnGo p e below (T.setTop (mkF m pc Ls (S))) RR := by
  subst hp
  exact own_step k fun t k => XS.lload X.here X.hx rfl (hb X.by' hd) hl k
theorem own_iconst {i : Int} {v : Int32} (X : OwnSt p l e R s m args below meth c Z own bytes maxL ret nm n0 km Q RR T h cells slots) (hd : decode bytes pc = .ok (.iconst i, 1)) (hp : pc + 1 = pc') (hv : Int32.ofInt i = v) (k : OwnGo p e below (T.setTop (mkF m pc' Ls (.int v :: S))) RR) : OwnGo p e below (T.setTop (mkF m pc Ls (S))) RR := by
  subst hp
  subst hv
  exact own_step k fun t k => XS.iconst X.here X.hx rfl (hb X.by' hd) k
theorem own_bipush {i : Int} {v : Int32} (X : OwnSt p l e R s m args below meth c Z own bytes maxL ret nm n0 km Q RR T h cells slots) (hd : decode bytes pc = .ok (.bipush i, 2)) (hp : pc + 2 = pc') (hv : (Int8.ofInt i).toInt32 = v) (k : OwnGo p e below (T.setTop (mkF m pc' Ls (.int v :: S))) RR) : OwnGo p e below (T.setTop (mkF m pc Ls (S))) RR := by
  subst hp
  subst hv
  exact own_step k fun t k => XS.bipush X.here X.hx rfl (hb X.by' hd) k
theorem own_sipush {i : Int} {v : Int32} (X : OwnSt p l e R s m args below meth c Z own bytes maxL ret nm n0 km Q RR T h cells slots) (hd : decode bytes pc = .ok (.sipush i, 3)) (hp : pc + 3 = pc') (hv : (Int16.ofInt i).toInt32 = v) (k : OwnGo p e below (T.setTop (mkF m pc' Ls (.int v :: S))) RR) : OwnGo p e below (T.setTop (mkF m pc Ls (S))) RR := by
  subst hp
  subst hv
  exact own_step k fun t k => XS.sipush X.here X.hx rfl (hb X.by' hd) k
theorem own_lconst {i : Fin 2} {v : Int64} (X : OwnSt p l e R s m args below meth c Z own bytes maxL ret nm n0 km Q RR T h cells slots) (hd : decode bytes pc = .ok (.lconst i, 1)) (hp : pc + 1 = pc') (hv : Int64.ofNat i = v) (k : OwnGo p e below (T.setTop (mkF m pc' Ls (.long v :: S))) RR) : OwnGo p e below (T.setTop (mkF m pc Ls (S))) RR := by
  subst hp
  subst hv
  exact own_step k fun t k => XS.lconst X.here X.hx rfl (hb X.by' hd) k
theorem own_aconst_null  (X : OwnSt p l e R s m args below meth c Z own bytes maxL ret nm n0 km Q RR T h cells slots) (hd : decode bytes pc = .ok (.aconst_null, 1)) (hp : pc + 1 = pc')  (k : OwnGo p e below (T.setTop (mkF m pc' Ls (.null :: S))) RR) : OwnGo p e below (T.setTop (mkF m pc Ls (S))) RR := by
  subst hp
  exact own_step k fun t k => XS.aconstNull X.here X.hx rfl (hb X.by' hd) k
theorem own_iadd {x y : Int32} (X : OwnSt p l e R s m args below meth c Z own bytes maxL ret nm n0 km Q RR T h cells slots) (hd : decode bytes pc = .ok (.iadd, 1)) (hp : pc + 1 = pc')  (k : OwnGo p e below (T.setTop (mkF m pc' Ls (.int (x + y) :: S))) RR) : OwnGo p e below (T.setTop (mkF m pc Ls (.int y :: .int x :: S))) RR := by
  subst hp
  exact own_step k fun t k => XS.iadd X.here X.hx rfl (hb X.by' hd) rfl k
theorem own_isub {x y : Int32} (X : OwnSt p l e R s m args below meth c Z own bytes maxL ret nm n0 km Q RR T h cells slots) (hd : decode bytes pc = .ok (.isub, 1)) (hp : pc + 1 = pc')  (k : OwnGo p e below (T.setTop (mkF m pc' Ls (.int (x - y) :: S))) RR) : OwnGo p e below (T.setTop (mkF m pc Ls (.int y :: .int x :: S))) RR := by
  subst hp
  exact own_step k fun t k => XS.isub X.here X.hx rfl (hb X.by' hd) rfl k
theorem own_imul {x y : Int32} (X : OwnSt p l e R s m args below meth c Z own bytes maxL ret nm n0 km Q RR T h cells slots) (hd : decode bytes pc = .ok (.imul, 1)) (hp : pc + 1 = pc')  (k : OwnGo p e below (T.setTop (mkF m pc' Ls (.int (x * y) :: S))) RR) : OwnGo p e below (T.setTop (mkF m pc Ls (.int y :: .int x :: S))) RR := by
  subst hp
  exact own_step k fun t k => XS.imul X.here X.hx rfl (hb X.by' hd) rfl k
theorem own_iand {x y : Int32} (X : OwnSt p l e R s m args below meth c Z own bytes maxL ret nm n0 km Q RR T h cells slots) (hd : decode bytes pc = .ok (.iand, 1)) (hp : pc + 1 = pc')  (k : OwnGo p e below (T.setTop (mkF m pc' Ls (.int (x &&& y) :: S))) RR) : OwnGo p e below (T.setTop (mkF m pc Ls (.int y :: .int x :: S))) RR := by
  subst hp
  exact own_step k fun t k => XS.iand X.here X.hx rfl (hb X.by' hd) rfl k
theorem own_ior {x y : Int32} (X : OwnSt p l e R s m args below meth c Z own bytes maxL ret nm n0 km Q RR T h cells slots) (hd : decode bytes pc = .ok (.ior, 1)) (hp : pc + 1 = pc')  (k : OwnGo p e below (T.setTop (mkF m pc' Ls (.int (x ||| y) :: S))) RR) : OwnGo p e below (T.setTop (mkF m pc Ls (.int y :: .int x :: S))) RR := by
  subst hp
  exact own_step k fun t k => XS.ior X.here X.hx rfl (hb X.by' hd) rfl k
theorem own_ixor {x y : Int32} (X : OwnSt p l e R s m args below meth c Z own bytes maxL ret nm n0 km Q RR T h cells slots) (hd : decode bytes pc = .ok (.ixor, 1)) (hp : pc + 1 = pc')  (k : OwnGo p e below (T.setTop (mkF m pc' Ls (.int (x ^^^ y) :: S))) RR) : OwnGo p e below (T.setTop (mkF m pc Ls (.int y :: .int x :: S))) RR := by
  subst hp
  exact own_step k fun t k => XS.ixor X.here X.hx rfl (hb X.by' hd) rfl k
theorem own_ishl {x y : Int32} (X : OwnSt p l e R s m args below meth c Z own bytes maxL ret nm n0 km Q RR T h cells slots) (hd : decode bytes pc = .ok (.ishl, 1)) (hp : pc + 1 = pc')  (k : OwnGo p e below (T.setTop (mkF m pc' Ls (.int (x <<< (y &&& 31)) :: S))) RR) : OwnGo p e below (T.setTop (mkF m pc Ls (.int y :: .int x :: S))) RR := by
  subst hp
  exact own_step k fun t k => XS.ishl X.here X.hx rfl (hb X.by' hd) rfl k
theorem own_ishr {x y : Int32} (X : OwnSt p l e R s m args below meth c Z own bytes maxL ret nm n0 km Q RR T h cells slots) (hd : decode bytes pc = .ok (.ishr, 1)) (hp : pc + 1 = pc')  (k : OwnGo p e below (T.setTop (mkF m pc' Ls (.int (x >>> (y &&& 31)) :: S))) RR) : OwnGo p e below (T.setTop (mkF m pc Ls (.int y :: .int x :: S))) RR := by
  subst hp
  exact own_step k fun t k => XS.ishr X.here X.hx rfl (hb X.by' hd) rfl k
theorem own_iushr {x y : Int32} (X : OwnSt p l e R s m args below meth c Z own bytes maxL ret nm n0 km Q RR T h cells slots) (hd : decode bytes pc = .ok (.iushr, 1)) (hp : pc + 1 = pc')  (k : OwnGo p e below (T.setTop (mkF m pc' Ls (.int ((x.toUInt32 >>> (y &&& 31).toUInt32).toInt32) :: S))) RR) : OwnGo p e below (T.setTop (mkF m pc Ls (.int y :: .int x :: S))) RR := by
  subst hp
  exact own_step k fun t k => XS.iushr X.here X.hx rfl (hb X.by' hd) rfl k
theorem own_idiv {x y : Int32} (X : OwnSt p l e R s m args below meth c Z own bytes maxL ret nm n0 km Q RR T h cells slots) (hd : decode bytes pc = .ok (.idiv, 1)) (hp : pc + 1 = pc') (hy : y ≠ 0) (k : OwnGo p e below (T.setTop (mkF m pc' Ls (.int (x / y) :: S))) RR) : OwnGo p e below (T.setTop (mkF m pc Ls (.int y :: .int x :: S))) RR := by
  subst hp
  exact own_step k fun t k => XS.idiv X.here X.hx rfl (hb X.by' hd) rfl hy k
theorem own_irem {x y : Int32} (X : OwnSt p l e R s m args below meth c Z own bytes maxL ret nm n0 km Q RR T h cells slots) (hd : decode bytes pc = .ok (.irem, 1)) (hp : pc + 1 = pc') (hy : y ≠ 0) (k : OwnGo p e below (T.setTop (mkF m pc' Ls (.int (x % y) :: S))) RR) : OwnGo p e below (T.setTop (mkF m pc Ls (.int y :: .int x :: S))) RR := by
  subst hp
  exact own_step k fun t k => XS.irem X.here X.hx rfl (hb X.by' hd) rfl hy (by rw [irem_eq_mod]; exact k)
theorem own_ladd {x y : Int64} (X : OwnSt p l e R s m args below meth c Z own bytes maxL ret nm n0 km Q RR T h cells slots) (hd : decode bytes pc = .ok (.ladd, 1)) (hp : pc + 1 = pc')  (k : OwnGo p e below (T.setTop (mkF m pc' Ls (.long (x + y) :: S))) RR) : OwnGo p e below (T.setTop (mkF m pc Ls (.long y :: .long x :: S))) RR := by
  subst hp
  exact own_step k fun t k => XS.ladd X.here X.hx rfl (hb X.by' hd) rfl k
theorem own_lsub {x y : Int64} (X : OwnSt p l e R s m args below meth c Z own bytes maxL ret nm n0 km Q RR T h cells slots) (hd : decode bytes pc = .ok (.lsub, 1)) (hp : pc + 1 = pc')  (k : OwnGo p e below (T.setTop (mkF m pc' Ls (.long (x - y) :: S))) RR) : OwnGo p e below (T.setTop (mkF m pc Ls (.long y :: .long x :: S))) RR := by
  subst hp
  exact own_step k fun t k => XS.lsub X.here X.hx rfl (hb X.by' hd) rfl k
theorem own_lmul {x y : Int64} (X : OwnSt p l e R s m args below meth c Z own bytes maxL ret nm n0 km Q RR T h cells slots) (hd : decode bytes pc = .ok (.lmul, 1)) (hp : pc + 1 = pc')  (k : OwnGo p e below (T.setTop (mkF m pc' Ls (.long (x * y) :: S))) RR) : OwnGo p e below (T.setTop (mkF m pc Ls (.long y :: .long x :: S))) RR := by
  subst hp
  exact own_step k fun t k => XS.lmul X.here X.hx rfl (hb X.by' hd) rfl k
theorem own_land {x y : Int64} (X : OwnSt p l e R s m args below meth c Z own bytes maxL ret nm n0 km Q RR T h cells slots) (hd : decode bytes pc = .ok (.land, 1)) (hp : pc + 1 = pc')  (k : OwnGo p e below (T.setTop (mkF m pc' Ls (.long (x &&& y) :: S))) RR) : OwnGo p e below (T.setTop (mkF m pc Ls (.long y :: .long x :: S))) RR := by
  subst hp
  exact own_step k fun t k => XS.land X.here X.hx rfl (hb X.by' hd) rfl k
theorem own_lor {x y : Int64} (X : OwnSt p l e R s m args below meth c Z own bytes maxL ret nm n0 km Q RR T h cells slots) (hd : decode bytes pc = .ok (.lor, 1)) (hp : pc + 1 = pc')  (k : OwnGo p e below (T.setTop (mkF m pc' Ls (.long (x ||| y) :: S))) RR) : OwnGo p e below (T.setTop (mkF m pc Ls (.long y :: .long x :: S))) RR := by
  subst hp
  exact own_step k fun t k => XS.lor X.here X.hx rfl (hb X.by' hd) rfl k
theorem own_lxor {x y : Int64} (X : OwnSt p l e R s m args below meth c Z own bytes maxL ret nm n0 km Q RR T h cells slots) (hd : decode bytes pc = .ok (.lxor, 1)) (hp : pc + 1 = pc')  (k : OwnGo p e below (T.setTop (mkF m pc' Ls (.long (x ^^^ y) :: S))) RR) : OwnGo p e below (T.setTop (mkF m pc Ls (.long y :: .long x :: S))) RR := by
  subst hp
  exact own_step k fun t k => XS.lxor X.here X.hx rfl (hb X.by' hd) rfl k
theorem own_ldiv {x y : Int64} (X : OwnSt p l e R s m args below meth c Z own bytes maxL ret nm n0 km Q RR T h cells slots) (hd : decode bytes pc = .ok (.ldiv, 1)) (hp : pc + 1 = pc') (hy : y ≠ 0) (k : OwnGo p e below (T.setTop (mkF m pc' Ls (.long (x / y) :: S))) RR) : OwnGo p e below (T.setTop (mkF m pc Ls (.long y :: .long x :: S))) RR := by
  subst hp
  exact own_step k fun t k => XS.ldiv X.here X.hx rfl (hb X.by' hd) rfl hy k
theorem own_lrem {x y : Int64} (X : OwnSt p l e R s m args below meth c Z own bytes maxL ret nm n0 km Q RR T h cells slots) (hd : decode bytes pc = .ok (.lrem, 1)) (hp : pc + 1 = pc') (hy : y ≠ 0) (k : OwnGo p e below (T.setTop (mkF m pc' Ls (.long (x - (x / y) * y) :: S))) RR) : OwnGo p e below (T.setTop (mkF m pc Ls (.long y :: .long x :: S))) RR := by
  subst hp
  exact own_step k fun t k => XS.lrem X.here X.hx rfl (hb X.by' hd) rfl hy k
theorem own_lshl {x : Int64} {y : Int32} (X : OwnSt p l e R s m args below meth c Z own bytes maxL ret nm n0 km Q RR T h cells slots) (hd : decode bytes pc = .ok (.lshl, 1)) (hp : pc + 1 = pc')  (k : OwnGo p e below (T.setTop (mkF m pc' Ls (.long (x <<< (y &&& 0x3f).toInt64) :: S))) RR) : OwnGo p e below (T.setTop (mkF m pc Ls (.int y :: .long x :: S))) RR := by
  subst hp
  exact own_step k fun t k => XS.lshl X.here X.hx rfl (hb X.by' hd) rfl k
theorem own_lshr {x : Int64} {y : Int32} (X : OwnSt p l e R s m args below meth c Z own bytes maxL ret nm n0 km Q RR T h cells slots) (hd : decode bytes pc = .ok (.lshr, 1)) (hp : pc + 1 = pc')  (k : OwnGo p e below (T.setTop (mkF m pc' Ls (.long (x >>> (y &&& 0x3f).toInt64) :: S))) RR) : OwnGo p e below (T.setTop (mkF m pc Ls (.int y :: .long x :: S))) RR := by
  subst hp
  exact own_step k fun t k => XS.lshr X.here X.hx rfl (hb X.by' hd) rfl k
theorem own_lushr {x : Int64} {y : Int32} (X : OwnSt p l e R s m args below meth c Z own bytes maxL ret nm n0 km Q RR T h cells slots) (hd : decode bytes pc = .ok (.lushr, 1)) (hp : pc + 1 = pc')  (k : OwnGo p e below (T.setTop (mkF m pc' Ls (.long ((x.toUInt64 >>> (y &&& 0x3f).toInt64.toUInt64).toInt64) :: S))) RR) : OwnGo p e below (T.setTop (mkF m pc Ls (.int y :: .long x :: S))) RR := by
  subst hp
  exact own_step k fun t k => XS.lushr X.here X.hx rfl (hb X.by' hd) rfl k
theorem own_ineg {x : Int32} (X : OwnSt p l e R s m args below meth c Z own bytes maxL ret nm n0 km Q RR T h cells slots) (hd : decode bytes pc = .ok (.ineg, 1)) (hp : pc + 1 = pc')  (k : OwnGo p e below (T.setTop (mkF m pc' Ls (.int (-x) :: S))) RR) : OwnGo p e below (T.setTop (mkF m pc Ls (.int x :: S))) RR := by
  subst hp
  exact own_step k fun t k => XS.ineg X.here X.hx rfl (hb X.by' hd) rfl k
theorem own_lneg {x : Int64} (X : OwnSt p l e R s m args below meth c Z own bytes maxL ret nm n0 km Q RR T h cells slots) (hd : decode bytes pc = .ok (.lneg, 1)) (hp : pc + 1 = pc')  (k : OwnGo p e below (T.setTop (mkF m pc' Ls (.long (-x) :: S))) RR) : OwnGo p e below (T.setTop (mkF m pc Ls (.long x :: S))) RR := by
  subst hp
  exact own_step k fun t k => XS.lneg X.here X.hx rfl (hb X.by' hd) rfl k
theorem own_i2l {x : Int32} (X : OwnSt p l e R s m args below meth c Z own bytes maxL ret nm n0 km Q RR T h cells slots) (hd : decode bytes pc = .ok (.i2l, 1)) (hp : pc + 1 = pc')  (k : OwnGo p e below (T.setTop (mkF m pc' Ls (.long (x.toInt64) :: S))) RR) : OwnGo p e below (T.setTop (mkF m pc Ls (.int x :: S))) RR := by
  subst hp
  exact own_step k fun t k => XS.i2l X.here X.hx rfl (hb X.by' hd) rfl k
theorem own_l2i {x : Int64} (X : OwnSt p l e R s m args below meth c Z own bytes maxL ret nm n0 km Q RR T h cells slots) (hd : decode bytes pc = .ok (.l2i, 1)) (hp : pc + 1 = pc')  (k : OwnGo p e below (T.setTop (mkF m pc' Ls (.int (x.toInt32) :: S))) RR) : OwnGo p e below (T.setTop (mkF m pc Ls (.long x :: S))) RR := by
  subst hp
  exact own_step k fun t k => XS.l2i X.here X.hx rfl (hb X.by' hd) rfl k
theorem own_i2b {x : Int32} (X : OwnSt p l e R s m args below meth c Z own bytes maxL ret nm n0 km Q RR T h cells slots) (hd : decode bytes pc = .ok (.i2b, 1)) (hp : pc + 1 = pc')  (k : OwnGo p e below (T.setTop (mkF m pc' Ls (.int (x.toInt8.toInt32) :: S))) RR) : OwnGo p e below (T.setTop (mkF m pc Ls (.int x :: S))) RR := by
  subst hp
  exact own_step k fun t k => XS.i2b X.here X.hx rfl (hb X.by' hd) rfl k
theorem own_i2s {x : Int32} (X : OwnSt p l e R s m args below meth c Z own bytes maxL ret nm n0 km Q RR T h cells slots) (hd : decode bytes pc = .ok (.i2s, 1)) (hp : pc + 1 = pc')  (k : OwnGo p e below (T.setTop (mkF m pc' Ls (.int (x.toInt16.toInt32) :: S))) RR) : OwnGo p e below (T.setTop (mkF m pc Ls (.int x :: S))) RR := by
  subst hp
  exact own_step k fun t k => XS.i2s X.here X.hx rfl (hb X.by' hd) rfl k
theorem own_i2c {x : Int32} (X : OwnSt p l e R s m args below meth c Z own bytes maxL ret nm n0 km Q RR T h cells slots) (hd : decode bytes pc = .ok (.i2c, 1)) (hp : pc + 1 = pc')  (k : OwnGo p e below (T.setTop (mkF m pc' Ls (.int (x.toUInt32.toUInt16.toUInt32.toInt32) :: S))) RR) : OwnGo p e below (T.setTop (mkF m pc Ls (.int x :: S))) RR := by
  subst hp
  exact own_step k fun t k => XS.i2c X.here X.hx rfl (hb X.by' hd) rfl k
theorem own_dup {x : Value} (X : OwnSt p l e R s m args below meth c Z own bytes maxL ret nm n0 km Q RR T h cells slots) (hd : decode bytes pc = .ok (.dup, 1)) (hp : pc + 1 = pc') (hc : x.category = 1) (k : OwnGo p e below (T.setTop (mkF m pc' Ls (x :: x :: S))) RR) : OwnGo p e below (T.setTop (mkF m pc Ls (x :: S))) RR := by
  subst hp
  exact own_step k fun t k => XS.dup X.here X.hx rfl (hb X.by' hd) rfl hc k
theorem own_pop {x : Value} (X : OwnSt p l e R s m args below meth c Z own bytes maxL ret nm n0 km Q RR T h cells slots) (hd : decode bytes pc = .ok (.pop, 1)) (hp : pc + 1 = pc') (hc : x.category = 1) (k : OwnGo p e below (T.setTop (mkF m pc' Ls (S))) RR) : OwnGo p e below (T.setTop (mkF m pc Ls (x :: S))) RR := by
  subst hp
  exact own_step k fun t k => XS.pop X.here X.hx rfl (hb X.by' hd) rfl hc k
theorem own_dup_x1 {x y : Value} (X : OwnSt p l e R s m args below meth c Z own bytes maxL ret nm n0 km Q RR T h cells slots) (hd : decode bytes pc = .ok (.dup_x1, 1)) (hp : pc + 1 = pc') (hc : x.category = 1) (hc' : y.category = 1) (k : OwnGo p e below (T.setTop (mkF m pc' Ls (x :: y :: x :: S))) RR) : OwnGo p e below (T.setTop (mkF m pc Ls (x :: y :: S))) RR := by
  subst hp
  exact own_step k fun t k => XS.dupX1 X.here X.hx rfl (hb X.by' hd) rfl hc hc' k
theorem own_istoreN {k : Fin 4} {x : Int32} {l' : Array Slot} (X : OwnSt p l e R s m args below meth c Z own bytes maxL ret nm n0 km Q RR T h cells slots) (hd : decode bytes pc = .ok (.istore_n k, 1)) (hp : pc + 1 = pc') (hl : storeLocals Ls k.val (.int x) = some l') (k : OwnGo p e below (T.setTop (mkF m pc' l' (S))) RR) : OwnGo p e below (T.setTop (mkF m pc Ls (.int x :: S))) RR := by
  subst hp
  exact own_step k fun t k => XS.istoreN X.here X.hx rfl (hb X.by' hd) rfl hl k
theorem own_istoreNV {k : Fin 4} {x : Int32} {l' : Int32 → Array Slot} (X : OwnSt p l e R s m args below meth c Z own bytes maxL ret nm n0 km Q RR T h cells slots) (hd : decode bytes pc = .ok (.istore_n k, 1)) (hp : pc + 1 = pc') (hl : ∀ v, storeLocals Ls k.val (.int v) = some (l' v)) (k : ∀ v, v = x → OwnGo p e below (T.setTop (mkF m pc' (l' v) (S))) RR) : OwnGo p e below (T.setTop (mkF m pc Ls (.int x :: S))) RR := by
  subst hp
  exact own_step (k _ rfl) fun t k => XS.istoreN X.here X.hx rfl (hb X.by' hd) rfl (hl _) k
theorem own_istore {k : Nat} {x : Int32} {l' : Array Slot} (X : OwnSt p l e R s m args below meth c Z own bytes maxL ret nm n0 km Q RR T h cells slots) (hd : decode bytes pc = .ok (.istore k, 2)) (hp : pc + 2 = pc') (hl : storeLocals Ls k (.int x) = some l') (k : OwnGo p e below (T.setTop (mkF m pc' l' (S))) RR) : OwnGo p e below (T.setTop (mkF m pc Ls (.int x :: S))) RR := by
  subst hp
  exact own_step k fun t k => XS.istore X.here X.hx rfl (hb X.by' hd) rfl hl k
theorem own_istoreV {k : Nat} {x : Int32} {l' : Int32 → Array Slot} (X : OwnSt p l e R s m args below meth c Z own bytes maxL ret nm n0 km Q RR T h cells slots) (hd : decode bytes pc = .ok (.istore k, 2)) (hp : pc + 2 = pc') (hl : ∀ v, storeLocals Ls k (.int v) = some (l' v)) (k : ∀ v, v = x → OwnGo p e below (T.setTop (mkF m pc' (l' v) (S))) RR) : OwnGo p e below (T.setTop (mkF m pc Ls (.int x :: S))) RR := by
  subst hp
  exact own_step (k _ rfl) fun t k => XS.istore X.here X.hx rfl (hb X.by' hd) rfl (hl _) k
theorem own_lstoreN {k : Fin 4} {x : Int64} {l' : Array Slot} (X : OwnSt p l e R s m args below meth c Z own bytes maxL ret nm n0 km Q RR T h cells slots) (hd : decode bytes pc = .ok (.lstore_n k, 1)) (hp : pc + 1 = pc') (hl : storeLocals Ls k.val (.long x) = some l') (k : OwnGo p e below (T.setTop (mkF m pc' l' (S))) RR) : OwnGo p e below (T.setTop (mkF m pc Ls (.long x :: S))) RR := by
  subst hp
  exact own_step k fun t k => XS.lstoreN X.here X.hx rfl (hb X.by' hd) rfl hl k
theorem own_lstoreNV {k : Fin 4} {x : Int64} {l' : Int64 → Array Slot} (X : OwnSt p l e R s m args below meth c Z own bytes maxL ret nm n0 km Q RR T h cells slots) (hd : decode bytes pc = .ok (.lstore_n k, 1)) (hp : pc + 1 = pc') (hl : ∀ v, storeLocals Ls k.val (.long v) = some (l' v)) (k : ∀ v, v = x → OwnGo p e below (T.setTop (mkF m pc' (l' v) (S))) RR) : OwnGo p e below (T.setTop (mkF m pc Ls (.long x :: S))) RR := by
  subst hp
  exact own_step (k _ rfl) fun t k => XS.lstoreN X.here X.hx rfl (hb X.by' hd) rfl (hl _) k
theorem own_lstore {k : Nat} {x : Int64} {l' : Array Slot} (X : OwnSt p l e R s m args below meth c Z own bytes maxL ret nm n0 km Q RR T h cells slots) (hd : decode bytes pc = .ok (.lstore k, 2)) (hp : pc + 2 = pc') (hl : storeLocals Ls k (.long x) = some l') (k : OwnGo p e below (T.setTop (mkF m pc' l' (S))) RR) : OwnGo p e below (T.setTop (mkF m pc Ls (.long x :: S))) RR := by
  subst hp
  exact own_step k fun t k => XS.lstore X.here X.hx rfl (hb X.by' hd) rfl hl k
theorem own_lstoreV {k : Nat} {x : Int64} {l' : Int64 → Array Slot} (X : OwnSt p l e R s m args below meth c Z own bytes maxL ret nm n0 km Q RR T h cells slots) (hd : decode bytes pc = .ok (.lstore k, 2)) (hp : pc + 2 = pc') (hl : ∀ v, storeLocals Ls k (.long v) = some (l' v)) (k : ∀ v, v = x → OwnGo p e below (T.setTop (mkF m pc' (l' v) (S))) RR) : OwnGo p e below (T.setTop (mkF m pc Ls (.long x :: S))) RR := by
  subst hp
  exact own_step (k _ rfl) fun t k => XS.lstore X.here X.hx rfl (hb X.by' hd) rfl (hl _) k
theorem own_astoreN {k : Fin 4} {x : Value} {l' : Array Slot} (X : OwnSt p l e R s m args below meth c Z own bytes maxL ret nm n0 km Q RR T h cells slots) (hd : decode bytes pc = .ok (.astore_n k, 1)) (hp : pc + 1 = pc') (hv : x.isRef = true) (hl : storeLocals Ls k.val x = some l') (k : OwnGo p e below (T.setTop (mkF m pc' l' (S))) RR) : OwnGo p e below (T.setTop (mkF m pc Ls (x :: S))) RR := by
  subst hp
  exact own_step k fun t k => XS.astoreN X.here X.hx rfl (hb X.by' hd) rfl hv hl k
theorem own_astore {k : Nat} {x : Value} {l' : Array Slot} (X : OwnSt p l e R s m args below meth c Z own bytes maxL ret nm n0 km Q RR T h cells slots) (hd : decode bytes pc = .ok (.astore k, 2)) (hp : pc + 2 = pc') (hv : x.isRef = true) (hl : storeLocals Ls k x = some l') (k : OwnGo p e below (T.setTop (mkF m pc' l' (S))) RR) : OwnGo p e below (T.setTop (mkF m pc Ls (x :: S))) RR := by
  subst hp
  exact own_step k fun t k => XS.astore X.here X.hx rfl (hb X.by' hd) rfl hv hl k
theorem own_iinc {k : Nat} {d : Int} {x y : Int32} {l' : Array Slot} (X : OwnSt p l e R s m args below meth c Z own bytes maxL ret nm n0 km Q RR T h cells slots) (hd : decode bytes pc = .ok (.iinc k d, 3)) (hp : pc + 3 = pc') (hx' : Ls[k]? = some (.val (.int x))) (hy : x + Int32.ofInt d = y) (hl : storeLocals Ls k (.int y) = some l') (k : OwnGo p e below (T.setTop (mkF m pc' l' (S))) RR) : OwnGo p e below (T.setTop (mkF m pc Ls (S))) RR := by
  subst hp
  subst hy
  exact own_step k fun t k => XS.iinc X.here X.hx rfl (hb X.by' hd) hx' hl k
theorem own_ifnonnullN {o : Int} (X : OwnSt p l e R s m args below meth c Z own bytes maxL ret nm n0 km Q RR T h cells slots) (hd : decode bytes pc = .ok (.ifnonnull o, 3)) (hp : pc + 3 = pc')  (k : OwnGo p e below (T.setTop (mkF m pc' Ls (S))) RR) : OwnGo p e below (T.setTop (mkF m pc Ls (.null :: S))) RR := by
  subst hp
  exact own_step k fun t k => XS.ifnonnullNo X.here X.hx rfl (hb X.by' hd) rfl k
theorem own_ifnullN {o : Int} {b : Addr} (X : OwnSt p l e R s m args below meth c Z own bytes maxL ret nm n0 km Q RR T h cells slots) (hd : decode bytes pc = .ok (.ifnull o, 3)) (hp : pc + 3 = pc')  (k : OwnGo p e below (T.setTop (mkF m pc' Ls (S))) RR) : OwnGo p e below (T.setTop (mkF m pc Ls (.ref b :: S))) RR := by
  subst hp
  exact own_step k fun t k => XS.ifnullNo X.here X.hx rfl (hb X.by' hd) rfl k
theorem own_ifnonnullY {o : Int} {b : Addr} (X : OwnSt p l e R s m args below meth c Z own bytes maxL ret nm n0 km Q RR T h cells slots) (hd : decode bytes pc = .ok (.ifnonnull o, 3)) (hp : ((pc : Int) + o).toNat = pc') (ho : 0 ≤ (pc : Int) + o) (k : OwnGo p e below (T.setTop (mkF m pc' Ls S)) RR) : OwnGo p e below (T.setTop (mkF m pc Ls (.ref b :: S))) RR :=
  own_step k fun t k => XS.ifnonnullYes X.here X.hx rfl (pc0 := pc) rfl (hb X.by' hd) rfl ho hp k
theorem own_ifnullY {o : Int} (X : OwnSt p l e R s m args below meth c Z own bytes maxL ret nm n0 km Q RR T h cells slots) (hd : decode bytes pc = .ok (.ifnull o, 3)) (hp : ((pc : Int) + o).toNat = pc') (ho : 0 ≤ (pc : Int) + o) (k : OwnGo p e below (T.setTop (mkF m pc' Ls S)) RR) : OwnGo p e below (T.setTop (mkF m pc Ls (.null :: S))) RR :=
  own_step k fun t k => XS.ifnullYes X.here X.hx rfl (pc0 := pc) rfl (hb X.by' hd) rfl ho hp k
theorem own_ldcInt {i : Nat} {v : Int32} (X : OwnSt p l e R s m args below meth c Z own bytes maxL ret nm n0 km Q RR T h cells slots) (hd : decode bytes pc = .ok (.ldc i, 2)) (hp : pc + 2 = pc') (w : (Cond.constant own i v).before a0 Z = true) (k : OwnGo p e below (T.setTop (mkF m pc' Ls (.int v :: S))) RR) : OwnGo p e below (T.setTop (mkF m pc Ls S)) RR := by
  subst hp
  obtain ⟨C, hh, hkm, locs, X0, N⟩ := id X
  exact own_step k (X0.ldcInt X.hx C.2.2.2.2.1 (mvT X.hZ w) (g := mkF m pc Ls S) rfl (hb X.by' hd))
theorem own_ldc2Long {i : Nat} {v : Int64} (X : OwnSt p l e R s m args below meth c Z own bytes maxL ret nm n0 km Q RR T h cells slots) (hd : decode bytes pc = .ok (.ldc2_w i, 3)) (hp : pc + 3 = pc') (w : (Cond.constantLong own i v).before a0 Z = true) (k : OwnGo p e below (T.setTop (mkF m pc' Ls (.long v :: S))) RR) : OwnGo p e below (T.setTop (mkF m pc Ls S)) RR := by
  subst hp
  obtain ⟨C, hh, hkm, locs, X0, N⟩ := id X
  exact own_step k (X0.ldc2Long X.hx C.2.2.2.2.1 (mvT X.hZ w) (g := mkF m pc Ls S) rfl (hb X.by' hd))
/-! forks -/
theorem own_ifY {cd : ClassFile.Cond} {x : Int32} {o : Int} (X : OwnSt p l e R s m args below meth c Z own bytes maxL ret nm n0 km Q RR T h cells slots) (hd : decode bytes pc = .ok (.ifCond cd o, 3)) (hc : if_icmp.holds cd x 0 = true) (hp : ((pc : Int) + o).toNat = pc') (ho : 0 ≤ (pc : Int) + o) (k : OwnGo p e below (T.setTop (mkF m pc' Ls S)) RR) : OwnGo p e below (T.setTop (mkF m pc Ls (.int x :: S))) RR :=
  own_step k fun t k => XS.ifYes X.here X.hx rfl (pc0 := pc) rfl (hb X.by' hd) rfl ((if0 _ _).trans hc) ho hp k
theorem own_ifN {cd : ClassFile.Cond} {x : Int32} {o : Int} (X : OwnSt p l e R s m args below meth c Z own bytes maxL ret nm n0 km Q RR T h cells slots) (hd : decode bytes pc = .ok (.ifCond cd o, 3)) (hc : if_icmp.holds cd x 0 = false) (hp : pc + 3 = pc') (k : OwnGo p e below (T.setTop (mkF m pc' Ls S)) RR) : OwnGo p e below (T.setTop (mkF m pc Ls (.int x :: S))) RR := by
  subst hp
  exact own_step k fun t k => XS.ifNo X.here X.hx rfl (hb X.by' hd) rfl ((if0 _ _).trans hc) k
theorem own_icY {cd : ClassFile.Cond} {x y : Int32} {o : Int} (X : OwnSt p l e R s m args below meth c Z own bytes maxL ret nm n0 km Q RR T h cells slots) (hd : decode bytes pc = .ok (.if_icmp cd o, 3)) (hc : if_icmp.holds cd x y = true) (hp : ((pc : Int) + o).toNat = pc') (ho : 0 ≤ (pc : Int) + o) (k : OwnGo p e below (T.setTop (mkF m pc' Ls S)) RR) : OwnGo p e below (T.setTop (mkF m pc Ls (.int y :: .int x :: S))) RR :=
  own_step k fun t k => XS.icmpYes X.here X.hx rfl (pc0 := pc) rfl (hb X.by' hd) rfl hc ho hp k
theorem own_icN {cd : ClassFile.Cond} {x y : Int32} {o : Int} (X : OwnSt p l e R s m args below meth c Z own bytes maxL ret nm n0 km Q RR T h cells slots) (hd : decode bytes pc = .ok (.if_icmp cd o, 3)) (hc : if_icmp.holds cd x y = false) (hp : pc + 3 = pc') (k : OwnGo p e below (T.setTop (mkF m pc' Ls S)) RR) : OwnGo p e below (T.setTop (mkF m pc Ls (.int y :: .int x :: S))) RR := by
  subst hp
  exact own_step k fun t k => XS.icmpNo X.here X.hx rfl (hb X.by' hd) rfl hc k
def ownLc (cd : ClassFile.Cond) (x y : Int64) : Bool := match cd with
  | .eq => decide (x = y) | .ne => !decide (x = y) | .lt => decide (x < y) | .ge => !decide (x < y) | .gt => decide (y < x) | .le => !decide (y < x)
theorem own_lc (cd : ClassFile.Cond) (x y : Int64) : if_icmp.holds cd (lcmpW x y) 0 = ownLc cd x y := by
  rw [lcW]
  have h1 := lc_eq x y
  have h2 := lc_lt x y
  have h3 := lc_gt x y
  cases cd <;> simp only [ownLc]
  · by_cases q : x = y
    · rw [(teq (h1.mpr q)).1]; simp [q]
    · rw [(feq fun w => q (h1.mp w)).1]; simp [q]
  · by_cases q : x = y
    · rw [(teq (h1.mpr q)).2]; simp [q]
    · rw [(feq fun w => q (h1.mp w)).2]; simp [q]
  · by_cases q : x < y
    · rw [(tlt (h2.mpr q)).1]; simp [q]
    · rw [(flt fun w => q (h2.mp w)).1]; simp [q]
  · by_cases q : x < y
    · rw [(tlt (h2.mpr q)).2.1]; simp [q]
    · rw [(flt fun w => q (h2.mp w)).2.1]; simp [q]
  · by_cases q : y < x
    · rw [(tlt (h3.mpr q)).2.2.1]; simp [q]
    · rw [(flt fun w => q (h3.mp w)).2.2.1]; simp [q]
  · by_cases q : y < x
    · rw [(tlt (h3.mpr q)).2.2.2]; simp [q]
    · rw [(flt fun w => q (h3.mp w)).2.2.2]; simp [q]
theorem own_ljY {cd : ClassFile.Cond} {x y : Int64} {o : Int} (X : OwnSt p l e R s m args below meth c Z own bytes maxL ret nm n0 km Q RR T h cells slots) (hd : decode bytes pc = .ok (.lcmp, 1)) (hd2 : decode bytes (pc + 1) = .ok (.ifCond cd o, 3)) (hc : ownLc cd x y = true) (hp : (((pc + 1 : Nat) : Int) + o).toNat = pc') (ho : 0 ≤ ((pc + 1 : Nat) : Int) + o) (k : OwnGo p e below (T.setTop (mkF m pc' Ls S)) RR) : OwnGo p e below (T.setTop (mkF m pc Ls (.long y :: .long x :: S))) RR :=
  own_step (own_ifY (pc := pc + 1) (x := lcmpW x y) X hd2 ((own_lc cd x y).trans hc) hp ho k) fun t k => XS.lcmp X.here X.hx rfl (hb X.by' hd) rfl k
theorem own_ljN {cd : ClassFile.Cond} {x y : Int64} {o : Int} (X : OwnSt p l e R s m args below meth c Z own bytes maxL ret nm n0 km Q RR T h cells slots) (hd : decode bytes pc = .ok (.lcmp, 1)) (hd2 : decode bytes (pc + 1) = .ok (.ifCond cd o, 3)) (hc : ownLc cd x y = false) (hp : pc + 4 = pc') (k : OwnGo p e below (T.setTop (mkF m pc' Ls S)) RR) : OwnGo p e below (T.setTop (mkF m pc Ls (.long y :: .long x :: S))) RR :=
  own_step (own_ifN (pc := pc + 1) (x := lcmpW x y) X hd2 ((own_lc cd x y).trans hc) hp k) fun t k => XS.lcmp X.here X.hx rfl (hb X.by' hd) rfl k
theorem own_teqA {a b : Addr} (h : a = b) : if_acmp.holds .eq (some a) (some b) = true ∧ if_acmp.holds .ne (some a) (some b) = false := by simp [if_acmp.holds, h]
theorem own_feqA {a b : Addr} (h : ¬ a = b) : if_acmp.holds .eq (some a) (some b) = false ∧ if_acmp.holds .ne (some a) (some b) = true := by simp [if_acmp.holds, h]
theorem own_acY {cd : ClassFile.ACond} {a b : Addr} {o : Int} (X : OwnSt p l e R s m args below meth c Z own bytes maxL ret nm n0 km Q RR T h cells slots) (hd : decode bytes pc = .ok (.if_acmp cd o, 3)) (hc : if_acmp.holds cd (some a) (some b) = true) (hp : ((pc : Int) + o).toNat = pc') (ho : 0 ≤ (pc : Int) + o) (k : OwnGo p e below (T.setTop (mkF m pc' Ls S)) RR) : OwnGo p e below (T.setTop (mkF m pc Ls (.ref b :: .ref a :: S))) RR :=
  own_step k fun t k => XS.acmpYes X.here X.hx rfl (pc0 := pc) rfl (hb X.by' hd) rfl hc ho hp k
theorem own_acN {cd : ClassFile.ACond} {a b : Addr} {o : Int} (X : OwnSt p l e R s m args below meth c Z own bytes maxL ret nm n0 km Q RR T h cells slots) (hd : decode bytes pc = .ok (.if_acmp cd o, 3)) (hc : if_acmp.holds cd (some a) (some b) = false) (hp : pc + 3 = pc') (k : OwnGo p e below (T.setTop (mkF m pc' Ls S)) RR) : OwnGo p e below (T.setTop (mkF m pc Ls (.ref b :: .ref a :: S))) RR := by
  subst hp
  exact own_step k fun t k => XS.acmpNo X.here X.hx rfl (hb X.by' hd) rfl hc k
theorem own_goto {o : Int} (X : OwnSt p l e R s m args below meth c Z own bytes maxL ret nm n0 km Q RR T h cells slots) (hd : decode bytes pc = .ok (.goto o, 3)) (hp : ((pc : Int) + o).toNat = pc') (ho : 0 ≤ (pc : Int) + o) (k : OwnGo p e below (T.setTop (mkF m pc' Ls S)) RR) : OwnGo p e below (T.setTop (mkF m pc Ls S)) RR :=
  own_step k fun t k => XS.goto X.here X.hx rfl (pc0 := pc) rfl (hb X.by' hd) ho hp k
theorem own_tltL {x y : Int64} (h : x < y) : ownLc .lt x y = true ∧ ownLc .ge x y = false ∧ ownLc .gt y x = true ∧ ownLc .le y x = false := by simp [ownLc, h]
theorem own_fltL {x y : Int64} (h : ¬ x < y) : ownLc .lt x y = false ∧ ownLc .ge x y = true ∧ ownLc .gt y x = false ∧ ownLc .le y x = true := by simp [ownLc, h]
theorem own_teqL {x y : Int64} (h : x = y) : ownLc .eq x y = true ∧ ownLc .ne x y = false := by simp [ownLc, h]
theorem own_feqL {x y : Int64} (h : ¬ x = y) : ownLc .eq x y = false ∧ ownLc .ne x y = true := by simp [ownLc, h]
/-- the same stand at another state with the same heap; with another heap -/
abbrev OwnAt (X : OwnSt p l e R s m args below meth c Z own bytes maxL ret nm n0 km Q RR T h cells slots) (T' : State) : Prop := OwnSt p l e R s m args below meth c Z own bytes maxL ret nm n0 km Q RR T' h cells slots
abbrev OwnAtH (X : OwnSt p l e R s m args below meth c Z own bytes maxL ret nm n0 km Q RR T h cells slots) (T' : State) (h' : Heap) : Prop := OwnSt p l e R s m args below meth c Z own bytes maxL ret nm n0 km Q RR T' h' cells slots
/-! heap steps -/
theorem own_init {index : Nat} {a : Addr} (X : OwnSt p l e R s m args below meth c Z own bytes maxL ret nm n0 km Q RR T h cells slots) (hd : decode bytes pc = .ok (.invokespecial index, 3)) (w1 : (Cond.methodLink own index Lib.objectInit).before a0 Z = true) (w2 : (Cond.instanceMethod Lib.objectInit).before a0 Z = true) (w3 : (Cond.code Lib.objectInit ⟨#[0xb1]⟩ 1 none).before a0 Z = true)
    (hp : pc + 3 = pc') (hsz : Ls.size = maxL) (hf : 1 ≤ R.frames) {W : Nat} (hW : 0 + (S.map fun v => v.category).sum ≤ W) (hlo : W + 12 ≤ R.locals)
    (k : ∀ T', OwnSt p l e R s m args below meth c Z own bytes maxL ret nm n0 km Q RR T' h cells slots → OwnGo p e below (T'.setTop (mkF m pc' Ls S)) RR) : OwnGo p e below (T.setTop (mkF m pc Ls (.ref a :: S))) RR := by
  subst hp
  obtain ⟨C, hh, hkm, locs, X0, N⟩ := X
  obtain ⟨hx, hby, hml, hZ, hown, hnm, hret, hlk, hR⟩ := id C
  obtain ⟨T', X', e', st⟩ := initO X0 hx hZ hown w1 w2 w3 hh (g := mkF m pc Ls (.ref a :: S)) rfl (hsz.trans hml.symm) rfl (hb hby hd) hf hW hlo
  exact own_step (k T' ⟨C, e', hkm, locs, X', N⟩) st
theorem own_new {index n : Nat} {K : String} (X : OwnSt p l e R s m args below meth c Z own bytes maxL ret nm n0 km Q RR T h cells slots) (hd : decode bytes pc = .ok (.new index, 3)) (w1 : (Cond.classLink own index K).before a0 Z = true) (w2 : (Cond.instantiable K n).before a0 Z = true) (w3 : (Cond.initialized K).before a0 Z = true)
    (hp : pc + 3 = pc') (hc : cells + 1 ≤ R.cells) (hl : slots + n ≤ R.slots)
    (k : ∀ T' h' b, b = h.size → OwnSt p l e R s m args below meth c Z own bytes maxL ret nm n0 km Q RR T' h' (cells + 1) (slots + n) → Ext h h' → Exa Z h' b K → (∀ {O nm d : String} {ty : FieldType}, Laid Z a0 K O nm d → parseFieldDescriptor d = some ty → Fld Z h' b O nm d (defaultValue ty)) → OwnGo p e below (T'.setTop (mkF m pc' Ls (.ref b :: S))) RR) : OwnGo p e below (T.setTop (mkF m pc Ls S)) RR := by
  subst hp
  obtain ⟨C, hh, hkm, locs, X0, N⟩ := X
  obtain ⟨hx, hby, hml, hZ, hown, hnm, hret, hlk, hR⟩ := id C
  obtain ⟨T', h', X', e', E', A', D', -, st⟩ := newO X0 hx hZ hown w1 w2 w3 hh (g := mkF m pc Ls S) rfl (hb hby hd) hc hl
  exact own_step (k T' h' _ rfl ⟨C, e', Nat.le_trans hkm E'.1, locs, X', N⟩ E' A' D') st
theorem own_getF {index : Nat} {O n d R0 : String} {a : Addr} {v : Value} (X : OwnSt p l e R s m args below meth c Z own bytes maxL ret nm n0 km Q RR T h cells slots) (hd : decode bytes pc = .ok (.getfield index, 3)) (w : (Cond.fieldLink own index R0 n d).before a0 Z = true) (via : Via Z R0 O n d) (F : Fld Z h a O n d v) (hp : pc + 3 = pc')
    (k : ∀ T', OwnSt p l e R s m args below meth c Z own bytes maxL ret nm n0 km Q RR T' h cells slots → OwnGo p e below (T'.setTop (mkF m pc' Ls (v :: S))) RR) : OwnGo p e below (T.setTop (mkF m pc Ls (.ref a :: S))) RR := by
  subst hp
  obtain ⟨C, hh, hkm, locs, X0, N⟩ := X
  obtain ⟨hx, hby, hml, hZ, hown, hnm, hret, hlk, hR⟩ := id C
  obtain ⟨T', X', e', st⟩ := getF X0 hx hZ hown (host := "") (Or.inl w) via hh F (g := mkF m pc Ls (.ref a :: S)) rfl rfl (hb hby hd)
  exact own_step (k T' ⟨C, e', hkm, locs, X', N⟩) st
theorem own_getS {index : Nat} {O n d R0 : String} {v : Value} (X : OwnSt p l e R s m args below meth c Z own bytes maxL ret nm n0 km Q RR T h cells slots) (hd : decode bytes pc = .ok (.getstatic index, 3)) (w : (Cond.fieldLink own index R0 n d).before a0 Z = true) (via : Via Z R0 O n d) (F : Sta Z h O n d v) (hp : pc + 3 = pc')
    (k : ∀ T', OwnSt p l e R s m args below meth c Z own bytes maxL ret nm n0 km Q RR T' h cells slots → OwnGo p e below (T'.setTop (mkF m pc' Ls (v :: S))) RR) : OwnGo p e below (T.setTop (mkF m pc Ls S)) RR := by
  subst hp
  obtain ⟨C, hh, hkm, locs, X0, N⟩ := X
  obtain ⟨hx, hby, hml, hZ, hown, hnm, hret, hlk, hR⟩ := id C
  obtain ⟨T', X', e', st⟩ := getS X0 hx hZ (host := "") hown w via hh F (g := mkF m pc Ls S) rfl (hb hby hd)
  exact own_step (k T' ⟨C, e', hkm, locs, X', N⟩) st
theorem own_putF {index kk : Nat} {O n d R0 K : String} {a : Addr} {v v' old : Value} {ty : FieldType} (X : OwnSt p l e R s m args below meth c Z own bytes maxL ret nm n0 km Q RR T h cells slots) (hd : decode bytes pc = .ok (.putfield index, 3)) (w : (Cond.fieldLink own index R0 n d).before a0 Z = true) (via : Via Z R0 O n d) (F : Fld Z h a O n d old) (E : Exa Z h a K) (L : (Cond.lays K O n d).before a0 Z = true ∨ ((Cond.laysFinal K O n d).before a0 Z = true ∧ own = O ∧ nm = "<init>")) (wi : (Cond.instantiable K kk).before a0 Z = true)
    (hty : parseFieldDescriptor d = some ty) (hn : narrow ty v = v') (hf : fits ty v' = true) (hge : n0 ≤ a) (hp : pc + 3 = pc')
    (k : ∀ T' h', OwnSt p l e R s m args below meth c Z own bytes maxL ret nm n0 km Q RR T' h' cells slots → Wr h h' a (Jvm.RoadKit.slotOf Z O n d) v' → OwnGo p e below (T'.setTop (mkF m pc' Ls S)) RR) : OwnGo p e below (T.setTop (mkF m pc Ls (v :: .ref a :: S))) RR := by
  subst hp
  obtain ⟨C, hh, hkm, locs, X0, N⟩ := X
  obtain ⟨hx, hby, hml, hZ, hown, hnm, hret, hlk, hR⟩ := id C
  obtain ⟨T', h', X', e', W', st⟩ := putFN X0 hx hZ hown w via hh F E (L.imp id fun q => ⟨q.1, q.2.1, hnm.trans q.2.2⟩) wi hty hn hf (g := mkF m pc Ls (v :: .ref a :: S)) rfl rfl (hb hby hd)
  exact own_step (k T' h' ⟨C, e', Nat.le_trans hkm (Nat.le_of_eq W'.size.symm), _, X', Fr.snoc X' N hge⟩ W') st
/-! from the case's words to facts -/
theorem own_fldL {st : State} {as' : Array Value} {t : Term} {C n d : String} {x : Addr} {z : Int64} (ht : t.eval as' st none [] st = some (.ref x)) (h : (Cond.eq (.field t C n d) (.long z)).value as' st none st [] = some true) : Fld st st.heap x C n d (.long z) := by
  obtain ⟨a, b, e1, e2, k1, k2⟩ := cmp_v (Or.inl h)
  cases (long_at z).symm.trans e2
  obtain ⟨w, rfl⟩ := k2
  have q := gotT (eq_L e1 e2) h
  subst q
  exact Fld.start ((fld_at ht).symm.trans e1)
theorem own_fldI {st : State} {as' : Array Value} {t : Term} {C n d : String} {x : Addr} {z : Int32} (ht : t.eval as' st none [] st = some (.ref x)) (h : (Cond.eq (.field t C n d) (.int z)).value as' st none st [] = some true) : Fld st st.heap x C n d (.int z) := by
  obtain ⟨a, b, e1, e2, k1, k2⟩ := cmp_v (Or.inl h)
  cases (Term.int_eval z).symm.trans e2
  obtain ⟨w, rfl⟩ := k2
  have q : w = z := by simpa [Cond.value, e1, e2] using h
  subst q
  exact Fld.start ((fld_at ht).symm.trans e1)
/-! calls by contract -/
theorem own_callC {index : Nat} {y : MethodName} {bytes' : ByteArray} {maxL' : Nat} {rm : Room} {a : Addr} {argsL : List Value} {Q' : Option Value → Heap → Prop} {ps : List FieldType} {W : Nat}
    (X : OwnSt p l e R s m args below meth c Z own bytes maxL ret nm n0 km Q RR T h cells slots) (hd : decode bytes pc = .ok (.invokespecial index, 3)) (hy : y.name = "<init>" ∧ y.cls ≠ "java/lang/invoke/MethodHandle" ∧ y.cls ≠ "java/lang/invoke/VarHandle")
    (w1 : (Cond.methodLink own index y).before a0 Z = true) (w2 : (Cond.instanceMethod y).before a0 Z = true) (w3 : (Cond.code y bytes' maxL' none).before a0 Z = true) (w4 : (Cond.initialized y.cls).before a0 Z = true)
    (M : OwnMet l Z y bytes' maxL' none rm (.ref a :: argsL).toArray h n0 Q') (hpd : parseMethodDescriptor y.desc = some ⟨ps, none⟩) (hlen : argsL.length = ps.length) {st : List Value} (hst : st = argsL.reverse ++ .ref a :: S) (hp : pc + 3 = pc') (hsz : Ls.size = maxL)
    (hW : 0 + (S.map fun v => v.category).sum ≤ W) (hf : rm.frames + 1 ≤ R.frames) (hlo : W + (maxL' + 11) + rm.locals ≤ R.locals) (hc : cells + rm.cells ≤ R.cells) (hl : slots + rm.slots ≤ R.slots)
    (k : ∀ T' h' v, OwnSt p l e R s m args below meth c Z own bytes maxL ret nm n0 km Q RR T' h' (cells + rm.cells) (slots + rm.slots) → Q' v h' → OwnGo p e below (T'.setTop (mkF m pc' Ls (v.toList ++ S))) RR) : OwnGo p e below (T.setTop (mkF m pc Ls st)) RR := by
  subst hp hst
  obtain ⟨C, hh, hkm, locs, X0, N⟩ := X
  obtain ⟨hx, hby, hml, hZ, hown, hnm, hret, hlk, hR⟩ := id C
  obtain ⟨v, _, ⟨T', L', c', s'⟩, -, X', ⟨Lc, hQ, e1, e2, e3⟩, st⟩ := X0.specialBack hx hy.1 hown (mvT hZ w1) (mvT hZ w2) (mvT hZ w3) hy.2 (backOf (W := W) (Q := fun v h' L => (Q' v h' ∧ h.size ≤ h'.size) ∧ Fr n0 L) (M []) hZ w3 w4 hf hlo) (g := mkF m pc Ls (argsL.reverse ++ .ref a :: S)) rfl (hsz.trans hml.symm) (Steps.refl _) (a := a) (argsL := argsL) (rest := S) (lenOf hpd hlen) rfl hW (hb hby hd) (fun _ _ => ⟨rfl, hh, hc, hl⟩)
  dsimp only [Pt.U, Pt.locs, Pt.cells, Pt.slots] at X' e1 e2 e3 st hQ
  subst e1 e2 e3
  exact own_step (k T' _ v ⟨C, rfl, Nat.le_trans hkm hQ.1.2, _, X', Fr.app N hQ.2⟩ hQ.1.1) fun t q => st.trans q
theorem own_callV {index : Nat} {y : MethodName} {K : String} {bytes' : ByteArray} {maxL' : Nat} {ret' : Option FieldType} {rm : Room} {a : Addr} {argsL : List Value} {Q' : Option Value → Heap → Prop} {ps : List FieldType} {W : Nat}
    (X : OwnSt p l e R s m args below meth c Z own bytes maxL ret nm n0 km Q RR T h cells slots) (hd : decode bytes pc = .ok (.invokevirtual index, 3)) (hy : y.cls ≠ "java/lang/invoke/MethodHandle" ∧ y.cls ≠ "java/lang/invoke/VarHandle")
    (w1 : (Cond.methodLink own index y).before a0 Z = true) (w2 : (Cond.declares y).before a0 Z = true) (w3 : (Cond.selects K y y).before a0 Z = true) (w4 : (Cond.instanceMethod y).before a0 Z = true) (w5 : (Cond.code y bytes' maxL' ret').before a0 Z = true) (w6 : (Cond.initialized y.cls).before a0 Z = true) (E : Exa Z h a K)
    (M : OwnMet l Z y bytes' maxL' ret' rm (.ref a :: argsL).toArray h n0 Q') {rt : Option FieldType} (hpd : parseMethodDescriptor y.desc = some ⟨ps, rt⟩) (hlen : argsL.length = ps.length) {st : List Value} (hst : st = argsL.reverse ++ .ref a :: S) (hp : pc + 3 = pc') (hsz : Ls.size = maxL)
    (hW : 0 + (S.map fun v => v.category).sum ≤ W) (hf : rm.frames + 1 ≤ R.frames) (hlo : W + (maxL' + 11) + rm.locals ≤ R.locals) (hc : cells + rm.cells ≤ R.cells) (hl : slots + rm.slots ≤ R.slots)
    (k : ∀ T' h' v, OwnSt p l e R s m args below meth c Z own bytes maxL ret nm n0 km Q RR T' h' (cells + rm.cells) (slots + rm.slots) → Q' v h' → OwnGo p e below (T'.setTop (mkF m pc' Ls (v.toList ++ S))) RR) : OwnGo p e below (T.setTop (mkF m pc Ls st)) RR := by
  subst hp hst
  obtain ⟨C, hh, hkm, locs, X0, N⟩ := X
  obtain ⟨hx, hby, hml, hZ, hown, hnm, hret, hlk, hR⟩ := id C
  obtain ⟨cq, kq, qa, qb, qc⟩ := isOf hZ hh E
  obtain ⟨v, _, ⟨T', L', c', s'⟩, -, X', ⟨Lc, hQ, e1, e2, e3⟩, st⟩ := X0.virtualBack hx (y := y) (z := y) hown (mvT hZ w1) (mvT hZ w2) (notFace_of_selects (args := #[]) (mvT hZ w3)) (mvT hZ w3) (mvT hZ w4) hy (backOf (W := W) (Q := fun v h' L => (Q' v h' ∧ h.size ≤ h'.size) ∧ Fr n0 L) (M []) hZ w5 w6 hf hlo) qa qc (g := mkF m pc Ls (argsL.reverse ++ .ref a :: S)) rfl (hsz.trans hml.symm) (Steps.refl _) (argsL := argsL) (rest := S) (lenOf hpd hlen) rfl hW (hb hby hd) (fun _ _ => ⟨rfl, hh, hc, hl⟩)
  dsimp only [Pt.U, Pt.locs, Pt.cells, Pt.slots] at X' e1 e2 e3 st hQ
  subst e1 e2 e3
  exact own_step (k T' _ v ⟨C, rfl, Nat.le_trans hkm hQ.1.2, _, X', Fr.app N hQ.2⟩ hQ.1.1) fun t q => st.trans q
theorem own_callP {index kk : Nat} {y : MethodName} {K : String} {bytes' : ByteArray} {maxL' : Nat} {ret' : Option FieldType} {rm : Room} {a : Addr} {argsL : List Value} {Q' : Option Value → Heap → Prop} {ps : List FieldType} {W : Nat}
    (X : OwnSt p l e R s m args below meth c Z own bytes maxL ret nm n0 km Q RR T h cells slots) (hd : decode bytes pc = .ok (.invokevirtual index, 3)) (hy : y.cls ≠ "java/lang/invoke/MethodHandle" ∧ y.cls ≠ "java/lang/invoke/VarHandle")
    (w1 : (Cond.methodLink own index y).before a0 Z = true) (w2 : (Cond.privateMethod y).before a0 Z = true) (w3 : (Cond.instantiable y.cls kk).before a0 Z = true) (w4 : (Cond.instanceMethod y).before a0 Z = true) (w5 : (Cond.code y bytes' maxL' ret').before a0 Z = true) (w6 : (Cond.initialized y.cls).before a0 Z = true) (E : Exa Z h a K)
    (M : OwnMet l Z y bytes' maxL' ret' rm (.ref a :: argsL).toArray h n0 Q') {rt : Option FieldType} (hpd : parseMethodDescriptor y.desc = some ⟨ps, rt⟩) (hlen : argsL.length = ps.length) {st : List Value} (hst : st = argsL.reverse ++ .ref a :: S) (hp : pc + 3 = pc') (hsz : Ls.size = maxL)
    (hW : 0 + (S.map fun v => v.category).sum ≤ W) (hf : rm.frames + 1 ≤ R.frames) (hlo : W + (maxL' + 11) + rm.locals ≤ R.locals) (hc : cells + rm.cells ≤ R.cells) (hl : slots + rm.slots ≤ R.slots)
    (k : ∀ T' h' v, OwnSt p l e R s m args below meth c Z own bytes maxL ret nm n0 km Q RR T' h' (cells + rm.cells) (slots + rm.slots) → Q' v h' → OwnGo p e below (T'.setTop (mkF m pc' Ls (v.toList ++ S))) RR) : OwnGo p e below (T.setTop (mkF m pc Ls st)) RR := by
  subst hp hst
  obtain ⟨C, hh, hkm, locs, X0, N⟩ := X
  obtain ⟨hx, hby, hml, hZ, hown, hnm, hret, hlk, hR⟩ := id C
  obtain ⟨cl, q, q'⟩ := E.cell
  have hpriv : s.PrivateAt y := Cond.privateMethod_at (mvP hZ w2 (args := #[]))
  have wi : (Cond.instantiable y.cls kk).before args s = true := mvT hZ w3
  obtain ⟨c2, k2, i1, i2, i3, i4, -⟩ := Cond.instantiable_spec wi
  have i5 : k2.isInterface = false := by
    cases hq : k2.isInterface
    · rfl
    · rw [hq] at i4; cases i4
  have hsel : (Cond.selects y.cls y y).before args s = true := selects_self_of_private i1 i2 i5 hpriv (mvT hZ w4) hy
  obtain ⟨v, _, ⟨T', L', c', s'⟩, -, X', ⟨Lc, hQ, e1, e2, e3⟩, st⟩ := X0.privateBack hx (y := y) hown (mvT hZ w1) (mvT hZ w4) hsel hpriv (mvT hZ w5) hy (backOf (W := W) (Q := fun v h' L => (Q' v h' ∧ h.size ≤ h'.size) ∧ Fr n0 L) (M []) hZ w5 w6 hf hlo) (g := mkF m pc Ls (argsL.reverse ++ .ref a :: S)) rfl (hsz.trans hml.symm) (Steps.refl _) (a := a) (by rw [hh]; exact q) q' (argsL := argsL) (rest := S) (lenOf hpd hlen) rfl hW (hb hby hd) (fun _ _ => ⟨rfl, hh, hc, hl⟩)
  dsimp only [Pt.U, Pt.locs, Pt.cells, Pt.slots] at X' e1 e2 e3 st hQ
  subst e1 e2 e3
  exact own_step (k T' _ v ⟨C, rfl, Nat.le_trans hkm hQ.1.2, _, X', Fr.app N hQ.2⟩ hQ.1.1) fun t q => st.trans q
theorem own_callS {index : Nat} {y : MethodName} {bytes' : ByteArray} {maxL' : Nat} {ret' : Option FieldType} {rm : Room} {argsL : List Value} {Q' : Option Value → Heap → Prop} {ps : List FieldType} {W : Nat}
    (X : OwnSt p l e R s m args below meth c Z own bytes maxL ret nm n0 km Q RR T h cells slots) (hd : decode bytes pc = .ok (.invokestatic index, 3)) (hy : y.cls ≠ "java/lang/invoke/MethodHandle" ∧ y.cls ≠ "java/lang/invoke/VarHandle")
    (w1 : (Cond.methodLink own index y).before a0 Z = true) (w2 : (Cond.static y).before a0 Z = true) (w5 : (Cond.code y bytes' maxL' ret').before a0 Z = true) (w6 : (Cond.initialized y.cls).before a0 Z = true)
    (M : OwnMet l Z y bytes' maxL' ret' rm argsL.toArray h n0 Q') {rt : Option FieldType} (hpd : parseMethodDescriptor y.desc = some ⟨ps, rt⟩) (hlen : argsL.length = ps.length) {st : List Value} (hst : st = argsL.reverse ++ S) (hp : pc + 3 = pc') (hsz : Ls.size = maxL)
    (hW : 0 + (S.map fun v => v.category).sum ≤ W) (hf : rm.frames + 1 ≤ R.frames) (hlo : W + (maxL' + 11) + rm.locals ≤ R.locals) (hc : cells + rm.cells ≤ R.cells) (hl : slots + rm.slots ≤ R.slots)
    (k : ∀ T' h' v, OwnSt p l e R s m args below meth c Z own bytes maxL ret nm n0 km Q RR T' h' (cells + rm.cells) (slots + rm.slots) → Q' v h' → OwnGo p e below (T'.setTop (mkF m pc' Ls (v.toList ++ S))) RR) : OwnGo p e below (T.setTop (mkF m pc Ls st)) RR := by
  subst hp hst
  obtain ⟨C, hh, hkm, locs, X0, N⟩ := X
  obtain ⟨hx, hby, hml, hZ, hown, hnm, hret, hlk, hR⟩ := id C
  obtain ⟨v, _, ⟨T', L', c', s'⟩, -, X', ⟨Lc, hQ, e1, e2, e3⟩, st⟩ := Jvm.LawKit.callS X0 hx (y := y) hown (mvT hZ w1) (mvT hZ w2) (mvT hZ w6) (mvT hZ w5) hy (backOf (W := W) (Q := fun v h' L => (Q' v h' ∧ h.size ≤ h'.size) ∧ Fr n0 L) (M []) hZ w5 w6 hf hlo) (g := mkF m pc Ls (argsL.reverse ++ S)) rfl (hsz.trans hml.symm) (argsL := argsL) (rest := S) (lenOf hpd hlen) rfl hW (hb hby hd) (fun _ _ => ⟨rfl, hh, hc, hl⟩)
  dsimp only [Pt.U, Pt.locs, Pt.cells, Pt.slots] at X' e1 e2 e3 st hQ
  subst e1 e2 e3
  exact own_step (k T' _ v ⟨C, rfl, Nat.le_trans hkm hQ.1.2, _, X', Fr.app N hQ.2⟩ hQ.1.1) st
end OwnKit
/-! ## own kit, arrays: the whole list of what lies in them -/
section OwnArr
variable {p : Program} {l : Launch} {e : Env} {R : Room} {s : State} {m : MethodId} {args : Array Value} {below : List Frame} {meth : Method} {c : Code} {Z : State} {own : String} {bytes : ByteArray} {maxL : Nat} {ret : Option FieldType} {nm : String} {n0 km : Nat} {Q : Option Value → Heap → Prop} {RR : State → Outcome → Prop} {T : State} {h h' : Heap} {cells slots : Nat} {a0 : Array Value} {pc pc' : Nat} {Ls : Array Slot} {S : List Value} {a b : Addr} {ty : FieldType} {vs : List Value} {sl : Nat} {v : Value} {ws : List Addr}
def OwnAr (Z : State) (h : Heap) (a : Addr) (ty : FieldType) (vs : List Value) : Prop := ∃ c : Cell, Arr Z h a c ty ∧ c.slots = vs.toArray ∧ vs.length < 2 ^ 31
theorem OwnAr.lt (F : OwnAr Z h a ty vs) : a < h.size := F.elim fun _ q => q.1.lt
theorem OwnAr.ext (F : OwnAr Z h a ty vs) (E : Ext h h') : OwnAr Z h' a ty vs := by obtain ⟨c, A, r⟩ := F; exact ⟨c, A.ext E, r⟩
theorem OwnAr.other (F : OwnAr Z h b ty vs) (W : Wr h h' a sl v) (q : b ≠ a) : OwnAr Z h' b ty vs := by obtain ⟨c, A, r⟩ := F; exact ⟨c, A.other W q, r⟩
theorem OwnAr.keep (F : OwnAr Z h a ty vs) (K : Keep h h' ws) (q : a ∉ ws) : OwnAr Z h' a ty vs := by obtain ⟨c, A, r⟩ := F; exact ⟨c, ⟨K.2.1 a c A.1 q, A.2⟩, r⟩
theorem OwnAr.same (F : OwnAr Z h a ty vs) (W : Wr h h' a sl v) : OwnAr Z h' a ty (vs.set sl v) := by
  obtain ⟨c, A, r1, r2⟩ := F
  exact ⟨_, A.same W, by simp [Cell.setSlot, r1], by simpa using r2⟩
theorem OwnAr.in (F : OwnAr Z h a ty vs) {j : Int32} (h1 : ¬ j < 0) (h2 : j.toNatClampNeg < vs.length) {c : Cell} (r1 : c.slots = vs.toArray) : ¬ (j < 0 ∨ c.slots.size ≤ j.toNatClampNeg) := by
  rintro (q | q)
  · exact h1 q
  · rw [r1, List.size_toArray] at q; omega
theorem own_lt_of_get {i : Nat} {x : Value} (q : vs[i]? = some x) : i < vs.length := (List.getElem?_eq_some_iff.mp q).1
theorem own_getI {xs : List Int32} {i : Nat} (q : i < xs.length) : (xs.map Value.int)[i]? = some (.int (xs.getD i 0)) := by
  rw [List.getElem?_map, List.getElem?_eq_getElem q, List.getD_eq_getElem?_getD, List.getElem?_eq_getElem q]; rfl
theorem own_getJ {xs : List Int64} {i : Nat} (q : i < xs.length) : (xs.map Value.long)[i]? = some (.long (xs.getD i 0)) := by
  rw [List.getElem?_map, List.getElem?_eq_getElem q, List.getD_eq_getElem?_getD, List.getElem?_eq_getElem q]; rfl
theorem own_newarr {aty : ArrayType} {n : Int32} {cap : Nat} (X : OwnSt p l e R s m args below meth c Z own bytes maxL ret nm n0 km Q RR T h cells slots) (hd : decode bytes pc = .ok (.newarray aty, 2)) (w : (Cond.arrayClass (newarray.typeOf aty)).before a0 Z = true) (hp : pc + 2 = pc') (hn : ¬ n < 0) (hcap : n.toNatClampNeg ≤ cap) (hbig : cap * 8 ≤ 536870912) (hc : cells + 1 ≤ R.cells) (hl : slots + cap ≤ R.slots)
    (k : ∀ T' h' b, b = h.size → OwnSt p l e R s m args below meth c Z own bytes maxL ret nm n0 km Q RR T' h' (cells + 1) (slots + cap) → Ext h h' → OwnAr Z h' b (newarray.typeOf aty) (List.replicate n.toNatClampNeg (defaultValue (newarray.typeOf aty))) → OwnGo p e below (T'.setTop (mkF m pc' Ls (.ref b :: S))) RR) : OwnGo p e below (T.setTop (mkF m pc Ls (.int n :: S))) RR := by
  subst hp
  obtain ⟨C, hh, hkm, locs, X0, N⟩ := X
  obtain ⟨hx, hby, hml, hZ, hown, hnm, hret, hlk, hR⟩ := id C
  obtain ⟨T', h', cA, X', e', E', A', st⟩ := newP X0 hx hZ w hh (g := mkF m pc Ls (.int n :: S)) rfl (hb hby hd) rfl hn hcap hbig hc hl
  exact own_step (k T' h' _ rfl ⟨C, e', Nat.le_trans hkm E'.1, locs, X', N⟩ E' ⟨_, A', by simp [newA], by simp only [List.length_replicate]; omega⟩) st
theorem own_arraylength (X : OwnSt p l e R s m args below meth c Z own bytes maxL ret nm n0 km Q RR T h cells slots) (hd : decode bytes pc = .ok (.arraylength, 1)) (A : OwnAr Z h a ty vs) {n : Int32} (hn : vs.length.toInt32 = n) (hp : pc + 1 = pc') (k : OwnGo p e below (T.setTop (mkF m pc' Ls (.int n :: S))) RR) : OwnGo p e below (T.setTop (mkF m pc Ls (.ref a :: S))) RR := by
  subst hp hn
  obtain ⟨C, hh, hkm, locs, X0, N⟩ := id X
  obtain ⟨cl, A0, r1, r2⟩ := A
  refine own_step k fun t q => ?_
  refine X0.arraylength X.hx (by rw [hh]; exact A0.1) (State.isArrayOf_alike X.hZ.alike A0.2.1) (g := mkF m pc Ls (.ref a :: S)) rfl rfl (hb X.by' hd) _ ?_
  rw [r1, List.size_toArray]; exact q
theorem own_iaload {j : Int32} (X : OwnSt p l e R s m args below meth c Z own bytes maxL ret nm n0 km Q RR T h cells slots) (hd : decode bytes pc = .ok (.iaload, 1)) (A : OwnAr Z h a .int vs) (hj : ¬ j < 0) (hv : vs[j.toNatClampNeg]? = some v) (hp : pc + 1 = pc') (k : OwnGo p e below (T.setTop (mkF m pc' Ls (v :: S))) RR) : OwnGo p e below (T.setTop (mkF m pc Ls (.int j :: .ref a :: S))) RR := by
  subst hp
  obtain ⟨C, hh, hkm, locs, X0, N⟩ := id X
  obtain ⟨cl, A0, r1, r2⟩ := id A
  exact own_step k fun t q => X0.iaload X.hx (by rw [hh]; exact A0.1) (State.isArrayOf_alike X.hZ.alike A0.2.1) A0.2.2 (A.in hj (own_lt_of_get hv) r1) (by rw [r1, List.getElem?_toArray]; exact hv) (g := mkF m pc Ls (.int j :: .ref a :: S)) rfl rfl (hb X.by' hd) _ q
theorem own_laload {j : Int32} (X : OwnSt p l e R s m args below meth c Z own bytes maxL ret nm n0 km Q RR T h cells slots) (hd : decode bytes pc = .ok (.laload, 1)) (A : OwnAr Z h a .long vs) (hj : ¬ j < 0) (hv : vs[j.toNatClampNeg]? = some v) (hp : pc + 1 = pc') (k : OwnGo p e below (T.setTop (mkF m pc' Ls (v :: S))) RR) : OwnGo p e below (T.setTop (mkF m pc Ls (.int j :: .ref a :: S))) RR := by
  subst hp
  obtain ⟨C, hh, hkm, locs, X0, N⟩ := id X
  obtain ⟨cl, A0, r1, r2⟩ := id A
  exact own_step k fun t q => X0.laload X.hx (by rw [hh]; exact A0.1) (State.isArrayOf_alike X.hZ.alike A0.2.1) A0.2.2 (A.in hj (own_lt_of_get hv) r1) (by rw [r1, List.getElem?_toArray]; exact hv) (g := mkF m pc Ls (.int j :: .ref a :: S)) rfl rfl (hb X.by' hd) _ q
theorem own_caload {j : Int32} (X : OwnSt p l e R s m args below meth c Z own bytes maxL ret nm n0 km Q RR T h cells slots) (hd : decode bytes pc = .ok (.caload, 1)) (A : OwnAr Z h a .char vs) (hj : ¬ j < 0) (hv : vs[j.toNatClampNeg]? = some v) (hp : pc + 1 = pc') (k : OwnGo p e below (T.setTop (mkF m pc' Ls (v :: S))) RR) : OwnGo p e below (T.setTop (mkF m pc Ls (.int j :: .ref a :: S))) RR := by
  subst hp
  obtain ⟨C, hh, hkm, locs, X0, N⟩ := id X
  obtain ⟨cl, A0, r1, r2⟩ := id A
  exact own_step k fun t q => X0.caload X.hx (by rw [hh]; exact A0.1) (State.isArrayOf_alike X.hZ.alike A0.2.1) A0.2.2 (A.in hj (own_lt_of_get hv) r1) (by rw [r1, List.getElem?_toArray]; exact hv) (g := mkF m pc Ls (.int j :: .ref a :: S)) rfl rfl (hb X.by' hd) _ q
theorem own_baload {j : Int32} (X : OwnSt p l e R s m args below meth c Z own bytes maxL ret nm n0 km Q RR T h cells slots) (hd : decode bytes pc = .ok (.baload, 1)) (A : OwnAr Z h a .byte vs) (hj : ¬ j < 0) (hv : vs[j.toNatClampNeg]? = some v) (hp : pc + 1 = pc') (k : OwnGo p e below (T.setTop (mkF m pc' Ls (v :: S))) RR) : OwnGo p e below (T.setTop (mkF m pc Ls (.int j :: .ref a :: S))) RR := by
  subst hp
  obtain ⟨C, hh, hkm, locs, X0, N⟩ := id X
  obtain ⟨cl, A0, r1, r2⟩ := id A
  exact own_step k fun t q => X0.baloadBytes X.hx (by rw [hh]; exact A0.1) (State.isArrayOf_alike X.hZ.alike A0.2.1) A0.2.2 (A.in hj (own_lt_of_get hv) r1) (by rw [r1, List.getElem?_toArray]; exact hv) (g := mkF m pc Ls (.int j :: .ref a :: S)) rfl rfl (hb X.by' hd) _ q
theorem own_aaload {j : Int32} (X : OwnSt p l e R s m args below meth c Z own bytes maxL ret nm n0 km Q RR T h cells slots) (hd : decode bytes pc = .ok (.aaload, 1)) (A : OwnAr Z h a ty vs) (hty : ty.isReference = true) (hj : ¬ j < 0) (hv : vs[j.toNatClampNeg]? = some v) (hp : pc + 1 = pc') (k : OwnGo p e below (T.setTop (mkF m pc' Ls (v :: S))) RR) : OwnGo p e below (T.setTop (mkF m pc Ls (.int j :: .ref a :: S))) RR := by
  subst hp
  obtain ⟨C, hh, hkm, locs, X0, N⟩ := id X
  obtain ⟨cl, A0, r1, r2⟩ := id A
  exact own_step k fun t q => X0.aaload X.hx (by rw [hh]; exact A0.1) (State.isArrayOf_alike X.hZ.alike A0.2.1) hty A0.2.2 (A.in hj (own_lt_of_get hv) r1) (by rw [r1, List.getElem?_toArray]; exact hv) (g := mkF m pc Ls (.int j :: .ref a :: S)) rfl rfl (hb X.by' hd) _ q
theorem own_iastore {j : Int32} {x : Int32} (X : OwnSt p l e R s m args below meth c Z own bytes maxL ret nm n0 km Q RR T h cells slots) (hd : decode bytes pc = .ok (.iastore, 1)) (A : OwnAr Z h a .int vs) (hj : ¬ j < 0) (hj2 : j.toNatClampNeg < vs.length) (hge : n0 ≤ a) (hp : pc + 1 = pc') (k : ∀ T' h', OwnSt p l e R s m args below meth c Z own bytes maxL ret nm n0 km Q RR T' h' cells slots → Wr h h' a j.toNatClampNeg (.int x) → OwnAr Z h' a .int (vs.set j.toNatClampNeg (.int x)) → OwnGo p e below (T'.setTop (mkF m pc' Ls S)) RR) : OwnGo p e below (T.setTop (mkF m pc Ls (.int x :: .int j :: .ref a :: S))) RR := by
  subst hp
  obtain ⟨C, hh, hkm, locs, X0, N⟩ := id X
  obtain ⟨cl, A0, r1, r2⟩ := id A
  obtain ⟨T', h', X', e', W', st⟩ := stI X0 X.hx X.hZ hh A0 (A.in hj hj2 r1) (g := mkF m pc Ls (.int x :: .int j :: .ref a :: S)) rfl rfl (hb X.by' hd)
  exact own_step (k T' h' ⟨C, e', Nat.le_trans hkm (Nat.le_of_eq W'.size.symm), _, X', Fr.snoc X' N hge⟩ W' (A.same W')) st
theorem own_lastore {j : Int32} {x : Int64} (X : OwnSt p l e R s m args below meth c Z own bytes maxL ret nm n0 km Q RR T h cells slots) (hd : decode bytes pc = .ok (.lastore, 1)) (A : OwnAr Z h a .long vs) (hj : ¬ j < 0) (hj2 : j.toNatClampNeg < vs.length) (hge : n0 ≤ a) (hp : pc + 1 = pc') (k : ∀ T' h', OwnSt p l e R s m args below meth c Z own bytes maxL ret nm n0 km Q RR T' h' cells slots → Wr h h' a j.toNatClampNeg (.long x) → OwnAr Z h' a .long (vs.set j.toNatClampNeg (.long x)) → OwnGo p e below (T'.setTop (mkF m pc' Ls S)) RR) : OwnGo p e below (T.setTop (mkF m pc Ls (.long x :: .int j :: .ref a :: S))) RR := by
  subst hp
  obtain ⟨C, hh, hkm, locs, X0, N⟩ := id X
  obtain ⟨cl, A0, r1, r2⟩ := id A
  obtain ⟨T', h', X', e', W', st⟩ := stJ X0 X.hx X.hZ hh A0 (A.in hj hj2 r1) (g := mkF m pc Ls (.long x :: .int j :: .ref a :: S)) rfl rfl (hb X.by' hd)
  exact own_step (k T' h' ⟨C, e', Nat.le_trans hkm (Nat.le_of_eq W'.size.symm), _, X', Fr.snoc X' N hge⟩ W' (A.same W')) st
theorem own_castore {j : Int32} {x : Int32} (X : OwnSt p l e R s m args below meth c Z own bytes maxL ret nm n0 km Q RR T h cells slots) (hd : decode bytes pc = .ok (.castore, 1)) (A : OwnAr Z h a .char vs) (hj : ¬ j < 0) (hj2 : j.toNatClampNeg < vs.length) (hge : n0 ≤ a) (hp : pc + 1 = pc') (k : ∀ T' h', OwnSt p l e R s m args below meth c Z own bytes maxL ret nm n0 km Q RR T' h' cells slots → Wr h h' a j.toNatClampNeg (.int (x.toUInt32.toUInt16.toUInt32.toInt32)) → OwnAr Z h' a .char (vs.set j.toNatClampNeg (.int (x.toUInt32.toUInt16.toUInt32.toInt32))) → OwnGo p e below (T'.setTop (mkF m pc' Ls S)) RR) : OwnGo p e below (T.setTop (mkF m pc Ls (.int x :: .int j :: .ref a :: S))) RR := by
  subst hp
  obtain ⟨C, hh, hkm, locs, X0, N⟩ := id X
  obtain ⟨cl, A0, r1, r2⟩ := id A
  obtain ⟨T', h', X', e', W', st⟩ := stC X0 X.hx X.hZ hh A0 (A.in hj hj2 r1) (g := mkF m pc Ls (.int x :: .int j :: .ref a :: S)) rfl rfl (hb X.by' hd)
  exact own_step (k T' h' ⟨C, e', Nat.le_trans hkm (Nat.le_of_eq W'.size.symm), _, X', Fr.snoc X' N hge⟩ W' (A.same W')) st
end OwnArr
theorem own_nn (x : Int32) : (x.toUInt32.toUInt16.toUInt32.toInt32).toUInt32.toUInt16.toUInt32.toInt32 = x.toUInt32.toUInt16.toUInt32.toInt32 := by
  have h : ∀ u : UInt16, u.toUInt32.toInt32.toUInt32.toUInt16 = u := fun u => by simp
  rw [h]
theorem own_and (x m : Int32) (hm : 0 ≤ m.toInt) : 0 ≤ (x &&& m).toInt ∧ (x &&& m).toInt ≤ m.toInt := by
  have e1 : m.toInt = (m.toBitVec.toNat : Int) := by
    show m.toBitVec.toInt = _
    have q : 0 ≤ m.toBitVec.toInt := hm
    have := m.toBitVec.isLt
    rw [BitVec.toInt_eq_toNat_cond] at q ⊢
    split at q <;> split <;> omega
  have h1 : (x &&& m).toBitVec.toNat ≤ m.toBitVec.toNat := by
    rw [Int32.toBitVec_and, BitVec.toNat_and]; exact Nat.and_le_right
  have h3 : m.toInt < 2147483648 := m.toInt_lt
  have e2 : (x &&& m).toInt = ((x &&& m).toBitVec.toNat : Int) := by
    show (x &&& m).toBitVec.toInt = _
    rw [BitVec.toInt_eq_toNat_cond]
    split <;> omega
  omega
theorem own_or32 (c : BitVec 32) (k : BitVec 32) (hk : k.getLsbD 5 = true) : c ||| 32#32 = k ↔ c = k ∨ c = k ^^^ 32#32 := by
  have t : (32#32 : BitVec 32) = BitVec.twoPow 32 5 := by decide
  constructor
  · intro h
    by_cases b : c.getLsbD 5
    · left; rw [← h]; apply BitVec.eq_of_getLsbD_eq; intro i hi
      rw [BitVec.getLsbD_or, t, BitVec.getLsbD_twoPow]
      by_cases q : 5 = i
      · subst q; simp [b]
      · simp [q]
    · right; rw [← h]; apply BitVec.eq_of_getLsbD_eq; intro i hi
      rw [BitVec.getLsbD_xor, BitVec.getLsbD_or, t, BitVec.getLsbD_twoPow]
      by_cases q : 5 = i
      · subst q; rw [Bool.not_eq_true] at b; rw [b]; rfl
      · simp [q]
  · rintro (rfl | rfl) <;> (apply BitVec.eq_of_getLsbD_eq; intro i hi; rw [BitVec.getLsbD_or]; try rw [BitVec.getLsbD_xor]) <;> rw [t, BitVec.getLsbD_twoPow]
    · by_cases q : 5 = i
      · subst q; simp [hk]
      · simp [q]
    · by_cases q : 5 = i
      · subst q; simp [hk]
      · simp [q]
theorem own_or (c k k' : Int32) (hk : k.toBitVec.getLsbD 5 = true) (hk' : k.toBitVec ^^^ 32#32 = k'.toBitVec) : c ||| (32 : Int32) = k ↔ c = k ∨ c = k' := by
  rw [← Int32.toBitVec_inj, Int32.toBitVec_or, ← Int32.toBitVec_inj (a := c) (b := k), ← Int32.toBitVec_inj (a := c) (b := k'), ← hk']
  exact own_or32 _ _ hk
theorem own_st (c : Int32) : (if c = (84 : Int32) then (1 : Int32) else (if c = (116 : Int32) then (1 : Int32) else (0 : Int32))) = (if c ||| (32 : Int32) = (116 : Int32) then (1 : Int32) else (0 : Int32)) := by
  simp only [own_or c 116 84 (by decide) (by decide)]
  by_cases h : c = 84 <;> by_cases h2 : c = 116 <;> simp [h, h2]
theorem own_p3 (x : Int32) : ((x &&& (65535 : Int32)) % (3 : Int32)) = 0 ∨ ((x &&& (65535 : Int32)) % (3 : Int32)) = 1 ∨ ((x &&& (65535 : Int32)) % (3 : Int32)) = 2 := by
  have h1 := own_and x 65535 (by decide)
  have h2 := (Jvm.RoadKit.c_irem (x &&& (65535 : Int32)) 3 3 rfl).1 h1.1
  have h3 : ((x &&& (65535 : Int32)) % (3 : Int32)).toInt = 0 ∨ ((x &&& (65535 : Int32)) % (3 : Int32)).toInt = 1 ∨ ((x &&& (65535 : Int32)) % (3 : Int32)).toInt = 2 := by omega
  simp only [← Int32.toInt_inj]; exact h3
theorem own_p1 (x : Int32) : (x &&& (1 : Int32)) = 0 ∨ (x &&& (1 : Int32)) = 1 ∨ (x &&& (1 : Int32)) = 2 := by
  have h1 := own_and x 1 (by decide)
  have e : (1 : Int32).toInt = 1 := rfl
  have h3 : (x &&& (1 : Int32)).toInt = 0 ∨ (x &&& (1 : Int32)).toInt = 1 ∨ (x &&& (1 : Int32)).toInt = 2 := by omega
  simp only [← Int32.toInt_inj]; exact h3
theorem own_p5 (x : Int32) : ((x &&& (7 : Int32)) % (5 : Int32)) = 0 ∨ ((x &&& (7 : Int32)) % (5 : Int32)) = 1 ∨ ((x &&& (7 : Int32)) % (5 : Int32)) = 2 ∨ ((x &&& (7 : Int32)) % (5 : Int32)) = 3 ∨ ((x &&& (7 : Int32)) % (5 : Int32)) = 4 := by
  have h1 := own_and x 7 (by decide)
  have h2 := (Jvm.RoadKit.c_irem (x &&& (7 : Int32)) 5 5 rfl).1 h1.1
  have h3 : ((x &&& (7 : Int32)) % (5 : Int32)).toInt = 0 ∨ ((x &&& (7 : Int32)) % (5 : Int32)).toInt = 1 ∨ ((x &&& (7 : Int32)) % (5 : Int32)).toInt = 2 ∨ ((x &&& (7 : Int32)) % (5 : Int32)).toInt = 3 ∨ ((x &&& (7 : Int32)) % (5 : Int32)).toInt = 4 := by omega
  simp only [← Int32.toInt_inj]; exact h3
def ownDg (c : Int32) : Int32 := if c < (48 : Int32) then (0 : Int32) else (if (57 : Int32) < c then (0 : Int32) else (1 : Int32))
theorem own_d1_0 : decode method_2_code 0 = .ok (.iload_n 0, 1) := by decide +kernel
theorem own_d1_1 : decode method_2_code 1 = .ok (.bipush 48, 2) := by decide +kernel
theorem own_d1_3 : decode method_2_code 3 = .ok (.if_icmp .lt 13, 3) := by decide +kernel
theorem own_d1_6 : decode method_2_code 6 = .ok (.iload_n 0, 1) := by decide +kernel
theorem own_d1_7 : decode method_2_code 7 = .ok (.bipush 57, 2) := by decide +kernel
theorem own_d1_9 : decode method_2_code 9 = .ok (.if_icmp .gt 7, 3) := by decide +kernel
theorem own_d1_12 : decode method_2_code 12 = .ok (.iconst 1, 1) := by decide +kernel
theorem own_d1_13 : decode method_2_code 13 = .ok (.goto 4, 3) := by decide +kernel
theorem own_d1_16 : decode method_2_code 16 = .ok (.iconst 0, 1) := by decide +kernel
theorem own_d1_17 : decode method_2_code 17 = .ok (.ireturn, 1) := by decide +kernel
theorem own_ef1 (m : MethodId) (x0 : Int32) : entryFrame m #[(.int x0)] 1 = mkF m 0 #[.val (.int x0)] [] := by first | (simp [entryFrame, mkF, argsToLocals, Value.category]; done) | rfl
theorem own_pn1 : plainFor (⟨"com/example/outcry/outcry/market/CharactersDigitsFromPinLaw", "ascii", "(C)Z"⟩ : MethodName) = true := by first | exact plainFor_of_name (by first | (simp [plainName, overriddenIn]; done) | decide +kernel) | exact Jvm.Free.JP.mathPlain rfl (by decide +kernel)
set_option maxRecDepth 65536 in
set_option maxHeartbeats 40000000 in
theorem own_rm1 (l : Launch) (Z : State) (a0 : Array Value) (hw : ∀ d ∈ tables_1, d.before a0 Z = true) (p1 : Int32) (h0 : Heap) (n0 : Nat) (Z0 : n0 ≤ h0.size)  :
    OwnMet l Z (⟨"com/example/outcry/outcry/market/CharactersDigitsFromPinLaw", "ascii", "(C)Z"⟩ : MethodName) method_2_code 1 (some .boolean) ({ frames := 0, cells := 0, slots := 0, locals := 0 } : Room) #[(.int p1)] h0 n0 (fun v h => v = some (.int (ownDg p1)) ∧ h0 = h) := by
  refine own_body own_pn1 ?_
  intro p e s m below meth c s₁ RR X0
  refine own_enter (own_ef1 m p1) ?_
  refine own_iloadN X0 own_d1_0 (pc' := 1) rfl rfl ?_
  refine own_bipush X0 own_d1_1 (pc' := 3) rfl (v := (48 : Int32)) (by decide) ?_
  have j17_1 : ∀ (f17_s0 : Int32), f17_s0 = (if p1 < (48 : Int32) then (0 : Int32) else (if (57 : Int32) < p1 then (0 : Int32) else (1 : Int32))) → OwnGo p e below (s₁.setTop (mkF m 17 #[.val (.int p1)] [(.int f17_s0)])) RR := by
    intro f17_s0 hf17_s0
    exact own_retZ X0 own_d1_17 (by rw [hf17_s0]; (repeat' split) <;> decide) ⟨by rw [hf17_s0]; rfl, rfl⟩ (by decide) (by decide)
  by_cases hc3 : p1 < (48 : Int32)
  · refine own_icY X0 own_d1_3 (tlt (hc3)).1 (pc' := 16) (by decide) (by decide) ?_
    refine own_iconst X0 own_d1_16 (pc' := 17) rfl (v := (0 : Int32)) (by decide) ?_
    exact j17_1 _ (by rw [if_pos hc3])
  · refine own_icN X0 own_d1_3 (flt (hc3)).1 (pc' := 6) rfl ?_
    refine own_iloadN X0 own_d1_6 (pc' := 7) rfl rfl ?_
    refine own_bipush X0 own_d1_7 (pc' := 9) rfl (v := (57 : Int32)) (by decide) ?_
    by_cases hc9 : (57 : Int32) < p1
    · refine own_icY X0 own_d1_9 (tlt (hc9)).2.2.1 (pc' := 16) (by decide) (by decide) ?_
      refine own_iconst X0 own_d1_16 (pc' := 17) rfl (v := (0 : Int32)) (by decide) ?_
      exact j17_1 _ (by rw [if_neg hc3, if_pos hc9])
    · refine own_icN X0 own_d1_9 (flt (hc9)).2.2.1 (pc' := 12) rfl ?_
      refine own_iconst X0 own_d1_12 (pc' := 13) rfl (v := (1 : Int32)) (by decide) ?_
      refine own_goto X0 own_d1_13 (pc' := 17) (by decide) (by decide) ?_
      exact j17_1 _ (by rw [if_neg hc3, if_neg hc9])
theorem own_d3_0 : decode prog_13_method_6_code 0 = .ok (.iload_n 0, 1) := by decide +kernel
theorem own_d3_1 : decode prog_13_method_6_code 1 = .ok (.bipush 48, 2) := by decide +kernel
theorem own_d3_3 : decode prog_13_method_6_code 3 = .ok (.if_icmp .lt 13, 3) := by decide +kernel
theorem own_d3_6 : decode prog_13_method_6_code 6 = .ok (.iload_n 0, 1) := by decide +kernel
theorem own_d3_7 : decode prog_13_method_6_code 7 = .ok (.bipush 57, 2) := by decide +kernel
theorem own_d3_9 : decode prog_13_method_6_code 9 = .ok (.if_icmp .gt 7, 3) := by decide +kernel
theorem own_d3_12 : decode prog_13_method_6_code 12 = .ok (.iconst 1, 1) := by decide +kernel
theorem own_d3_13 : decode prog_13_method_6_code 13 = .ok (.goto 4, 3) := by decide +kernel
theorem own_d3_16 : decode prog_13_method_6_code 16 = .ok (.iconst 0, 1) := by decide +kernel
theorem own_d3_17 : decode prog_13_method_6_code 17 = .ok (.ireturn, 1) := by decide +kernel
theorem own_ef3 (m : MethodId) (x0 : Int32) : entryFrame m #[(.int x0)] 1 = mkF m 0 #[.val (.int x0)] [] := by first | (simp [entryFrame, mkF, argsToLocals, Value.category]; done) | rfl
theorem own_pn3 : plainFor (⟨"com/example/outcry/outcry/market/Characters", "isDigit", "(C)Z"⟩ : MethodName) = true := by first | exact plainFor_of_name (by first | (simp [plainName, overriddenIn]; done) | decide +kernel) | exact Jvm.Free.JP.mathPlain rfl (by decide +kernel)
set_option maxRecDepth 65536 in
set_option maxHeartbeats 40000000 in
theorem own_rm3 (l : Launch) (Z : State) (a0 : Array Value) (hw : ∀ d ∈ tables_1, d.before a0 Z = true) (p1 : Int32) (h0 : Heap) (n0 : Nat) (Z0 : n0 ≤ h0.size)  :
    OwnMet l Z (⟨"com/example/outcry/outcry/market/Characters", "isDigit", "(C)Z"⟩ : MethodName) prog_13_method_6_code 1 (some .boolean) ({ frames := 0, cells := 0, slots := 0, locals := 0 } : Room) #[(.int p1)] h0 n0 (fun v h => v = some (.int (ownDg p1)) ∧ h0 = h) := by
  refine own_body own_pn3 ?_
  intro p e s m below meth c s₁ RR X0
  refine own_enter (own_ef3 m p1) ?_
  refine own_iloadN X0 own_d3_0 (pc' := 1) rfl rfl ?_
  refine own_bipush X0 own_d3_1 (pc' := 3) rfl (v := (48 : Int32)) (by decide) ?_
  have j17_1 : ∀ (f17_s0 : Int32), f17_s0 = (if p1 < (48 : Int32) then (0 : Int32) else (if (57 : Int32) < p1 then (0 : Int32) else (1 : Int32))) → OwnGo p e below (s₁.setTop (mkF m 17 #[.val (.int p1)] [(.int f17_s0)])) RR := by
    intro f17_s0 hf17_s0
    exact own_retZ X0 own_d3_17 (by rw [hf17_s0]; (repeat' split) <;> decide) ⟨by rw [hf17_s0]; rfl, rfl⟩ (by decide) (by decide)
  by_cases hc3 : p1 < (48 : Int32)
  · refine own_icY X0 own_d3_3 (tlt (hc3)).1 (pc' := 16) (by decide) (by decide) ?_
    refine own_iconst X0 own_d3_16 (pc' := 17) rfl (v := (0 : Int32)) (by decide) ?_
    exact j17_1 _ (by rw [if_pos hc3])
  · refine own_icN X0 own_d3_3 (flt (hc3)).1 (pc' := 6) rfl ?_
    refine own_iloadN X0 own_d3_6 (pc' := 7) rfl rfl ?_
    refine own_bipush X0 own_d3_7 (pc' := 9) rfl (v := (57 : Int32)) (by decide) ?_
    by_cases hc9 : (57 : Int32) < p1
    · refine own_icY X0 own_d3_9 (tlt (hc9)).2.2.1 (pc' := 16) (by decide) (by decide) ?_
      refine own_iconst X0 own_d3_16 (pc' := 17) rfl (v := (0 : Int32)) (by decide) ?_
      exact j17_1 _ (by rw [if_neg hc3, if_pos hc9])
    · refine own_icN X0 own_d3_9 (flt (hc9)).2.2.1 (pc' := 12) rfl ?_
      refine own_iconst X0 own_d3_12 (pc' := 13) rfl (v := (1 : Int32)) (by decide) ?_
      refine own_goto X0 own_d3_13 (pc' := 17) (by decide) (by decide) ?_
      exact j17_1 _ (by rw [if_neg hc3, if_neg hc9])
theorem own_pd0 : parseMethodDescriptor "(C)Z" = some ⟨[.char], some .boolean⟩ := by decide +kernel
theorem own_d2_0 : decode prog_13_method_3_code 0 = .ok (.iload_n 1, 1) := by decide +kernel
theorem own_d2_1 : decode prog_13_method_3_code 1 = .ok (.istore_n 2, 1) := by decide +kernel
theorem own_d2_2 : decode prog_13_method_3_code 2 = .ok (.iload_n 2, 1) := by decide +kernel
theorem own_d2_3 : decode prog_13_method_3_code 3 = .ok (.aload_n 0, 1) := by decide +kernel
theorem own_d2_4 : decode prog_13_method_3_code 4 = .ok (.arraylength, 1) := by decide +kernel
theorem own_d2_5 : decode prog_13_method_3_code 5 = .ok (.if_icmp .ge 18, 3) := by decide +kernel
theorem own_d2_8 : decode prog_13_method_3_code 8 = .ok (.aload_n 0, 1) := by decide +kernel
theorem own_d2_9 : decode prog_13_method_3_code 9 = .ok (.iload_n 2, 1) := by decide +kernel
theorem own_d2_10 : decode prog_13_method_3_code 10 = .ok (.caload, 1) := by decide +kernel
theorem own_d2_11 : decode prog_13_method_3_code 11 = .ok (.invokestatic 19, 3) := by decide +kernel
theorem own_d2_14 : decode prog_13_method_3_code 14 = .ok (.ifCond .eq 9, 3) := by decide +kernel
theorem own_d2_17 : decode prog_13_method_3_code 17 = .ok (.iinc 2 1, 3) := by decide +kernel
theorem own_d2_20 : decode prog_13_method_3_code 20 = .ok (.goto (-18), 3) := by decide +kernel
theorem own_d2_23 : decode prog_13_method_3_code 23 = .ok (.iload_n 2, 1) := by decide +kernel
theorem own_d2_24 : decode prog_13_method_3_code 24 = .ok (.ireturn, 1) := by decide +kernel
theorem own_ef2_0 (m : MethodId) (x0 : Addr) (x1 : Int32) : entryFrame m #[(.ref x0), (.int x1)] 3 = mkF m 0 #[.val (.ref x0), .val (.int x1), .unset] [] := by first | (simp [entryFrame, mkF, argsToLocals, Value.category]; done) | rfl
theorem own_pn2_0 : plainFor (⟨"com/example/outcry/outcry/market/Characters", "digitsFrom", "([CI)I"⟩ : MethodName) = true := by first | exact plainFor_of_name (by first | (simp [plainName, overriddenIn]; done) | decide +kernel) | exact Jvm.Free.JP.mathPlain rfl (by decide +kernel)
set_option maxRecDepth 65536 in
set_option maxHeartbeats 40000000 in
theorem own_rm2_0 (l : Launch) (Z : State) (a0 : Array Value) (hw : ∀ d ∈ tables_1, d.before a0 Z = true) (a1 : Addr) (c0 : Int32) (c1 : Int32) (c2 : Int32) (c3 : Int32) (h0 : Heap) (n0 : Nat) (Z0 : n0 ≤ h0.size) (V_a1 : OwnAr Z h0 a1 .char [(.int c0), (.int c1), (.int c2), (.int c3)]) :
    OwnMet l Z (⟨"com/example/outcry/outcry/market/Characters", "digitsFrom", "([CI)I"⟩ : MethodName) prog_13_method_3_code 3 (some .int) ({ frames := 1, cells := 0, slots := 0, locals := 12 } : Room) #[(.ref a1), (.int (0 : Int32))] h0 n0 (fun v h => v = some (.int (if ownDg c0 = (0 : Int32) then (0 : Int32) else (if ownDg c1 = (0 : Int32) then (1 : Int32) else (if ownDg c2 = (0 : Int32) then (2 : Int32) else (if ownDg c3 = (0 : Int32) then (3 : Int32) else (4 : Int32)))))) ∧ h0 = h) := by
  refine own_body own_pn2_0 ?_
  intro p e s m below meth c s₁ RR X0
  refine own_enter (own_ef2_0 m a1 (0 : Int32)) ?_
  refine own_iloadN X0 own_d2_0 (pc' := 1) rfl rfl ?_
  refine own_istoreN X0 own_d2_1 (pc' := 2) rfl (l' := #[.val (.ref a1), .val (.int (0 : Int32)), .val (.int (0 : Int32))]) rfl ?_
  refine own_iloadN X0 own_d2_2 (pc' := 3) rfl rfl ?_
  refine own_aloadN X0 own_d2_3 (pc' := 4) rfl rfl rfl ?_
  refine own_arraylength X0 own_d2_4 V_a1 (n := (4 : Int32)) rfl (pc' := 5) rfl ?_
  refine own_icN X0 own_d2_5 (tlt ((by decide : (0 : Int32) < (4 : Int32)))).2.1 (pc' := 8) rfl ?_
  refine own_aloadN X0 own_d2_8 (pc' := 9) rfl rfl rfl ?_
  refine own_iloadN X0 own_d2_9 (pc' := 10) rfl rfl ?_
  refine own_caload X0 own_d2_10 V_a1 (by decide) (v := (.int c0)) rfl (pc' := 11) rfl ?_
  refine own_callS (argsL := [(.int c0)]) X0 own_d2_11 (y := (⟨"com/example/outcry/outcry/market/Characters", "isDigit", "(C)Z"⟩ : MethodName)) (by decide) (hw _ (List.mem_of_getElem? (i := 10) rfl)) (hw _ (List.mem_of_getElem? (i := 11) rfl)) (hw _ (List.mem_of_getElem? (i := 12) rfl)) (hw _ (List.mem_of_getElem? (i := 8) rfl)) (own_rm3 l Z a0 hw c0 h0 n0 Z0 ) own_pd0 rfl (S := []) rfl (pc' := 14) rfl rfl (W := 0) (Nat.le_of_eq rfl) (by decide) (by decide) (by decide) (by decide) ?_
  intro T1 h1 v1_ X1 q1_
  obtain ⟨rfl, rfl⟩ := q1_
  obtain ⟨r1, hr1⟩ : ∃ z, z = (ownDg c0) := ⟨_, rfl⟩
  show OwnGo p e below (T1.setTop (mkF m 14 #[.val (.ref a1), .val (.int (0 : Int32)), .val (.int (0 : Int32))] [(.int (ownDg c0))])) RR
  rw [← hr1]
  by_cases hc14 : r1 = (0 : Int32)
  · refine own_ifY X1 own_d2_14 (teq (hc14)).1 (pc' := 23) (by decide) (by decide) ?_
    refine own_iloadN X1 own_d2_23 (pc' := 24) rfl rfl ?_
    exact own_retI X1 own_d2_24 ⟨(by simp_all), rfl⟩ (by decide) (by decide)
  · refine own_ifN X1 own_d2_14 (feq (hc14)).1 (pc' := 17) rfl ?_
    refine own_iinc X1 own_d2_17 (pc' := 20) rfl rfl (y := (1 : Int32)) rfl (l' := #[.val (.ref a1), .val (.int (0 : Int32)), .val (.int (1 : Int32))]) rfl ?_
    refine own_goto X1 own_d2_20 (pc' := 2) (by decide) (by decide) ?_
    refine own_iloadN X1 own_d2_2 (pc' := 3) rfl rfl ?_
    refine own_aloadN X1 own_d2_3 (pc' := 4) rfl rfl rfl ?_
    refine own_arraylength X1 own_d2_4 V_a1 (n := (4 : Int32)) rfl (pc' := 5) rfl ?_
    refine own_icN X1 own_d2_5 (tlt ((by decide : (1 : Int32) < (4 : Int32)))).2.1 (pc' := 8) rfl ?_
    refine own_aloadN X1 own_d2_8 (pc' := 9) rfl rfl rfl ?_
    refine own_iloadN X1 own_d2_9 (pc' := 10) rfl rfl ?_
    refine own_caload X1 own_d2_10 V_a1 (by decide) (v := (.int c1)) rfl (pc' := 11) rfl ?_
    refine own_callS (argsL := [(.int c1)]) X1 own_d2_11 (y := (⟨"com/example/outcry/outcry/market/Characters", "isDigit", "(C)Z"⟩ : MethodName)) (by decide) (hw _ (List.mem_of_getElem? (i := 10) rfl)) (hw _ (List.mem_of_getElem? (i := 11) rfl)) (hw _ (List.mem_of_getElem? (i := 12) rfl)) (hw _ (List.mem_of_getElem? (i := 8) rfl)) (own_rm3 l Z a0 hw c1 h0 n0 Z0 ) own_pd0 rfl (S := []) rfl (pc' := 14) rfl rfl (W := 0) (Nat.le_of_eq rfl) (by decide) (by decide) (by decide) (by decide) ?_
    intro T2 h2 v2_ X2 q2_
    obtain ⟨rfl, rfl⟩ := q2_
    obtain ⟨r2, hr2⟩ : ∃ z, z = (ownDg c1) := ⟨_, rfl⟩
    show OwnGo p e below (T2.setTop (mkF m 14 #[.val (.ref a1), .val (.int (0 : Int32)), .val (.int (1 : Int32))] [(.int (ownDg c1))])) RR
    rw [← hr2]
    by_cases hc14_3 : r2 = (0 : Int32)
    · refine own_ifY X2 own_d2_14 (teq (hc14_3)).1 (pc' := 23) (by decide) (by decide) ?_
      refine own_iloadN X2 own_d2_23 (pc' := 24) rfl rfl ?_
      exact own_retI X2 own_d2_24 ⟨(by simp_all), rfl⟩ (by decide) (by decide)
    · refine own_ifN X2 own_d2_14 (feq (hc14_3)).1 (pc' := 17) rfl ?_
      refine own_iinc X2 own_d2_17 (pc' := 20) rfl rfl (y := (2 : Int32)) rfl (l' := #[.val (.ref a1), .val (.int (0 : Int32)), .val (.int (2 : Int32))]) rfl ?_
      refine own_goto X2 own_d2_20 (pc' := 2) (by decide) (by decide) ?_
      refine own_iloadN X2 own_d2_2 (pc' := 3) rfl rfl ?_
      refine own_aloadN X2 own_d2_3 (pc' := 4) rfl rfl rfl ?_
      refine own_arraylength X2 own_d2_4 V_a1 (n := (4 : Int32)) rfl (pc' := 5) rfl ?_
      refine own_icN X2 own_d2_5 (tlt ((by decide : (2 : Int32) < (4 : Int32)))).2.1 (pc' := 8) rfl ?_
      refine own_aloadN X2 own_d2_8 (pc' := 9) rfl rfl rfl ?_
      refine own_iloadN X2 own_d2_9 (pc' := 10) rfl rfl ?_
      refine own_caload X2 own_d2_10 V_a1 (by decide) (v := (.int c2)) rfl (pc' := 11) rfl ?_
      refine own_callS (argsL := [(.int c2)]) X2 own_d2_11 (y := (⟨"com/example/outcry/outcry/market/Characters", "isDigit", "(C)Z"⟩ : MethodName)) (by decide) (hw _ (List.mem_of_getElem? (i := 10) rfl)) (hw _ (List.mem_of_getElem? (i := 11) rfl)) (hw _ (List.mem_of_getElem? (i := 12) rfl)) (hw _ (List.mem_of_getElem? (i := 8) rfl)) (own_rm3 l Z a0 hw c2 h0 n0 Z0 ) own_pd0 rfl (S := []) rfl (pc' := 14) rfl rfl (W := 0) (Nat.le_of_eq rfl) (by decide) (by decide) (by decide) (by decide) ?_
      intro T4 h4 v4_ X4 q4_
      obtain ⟨rfl, rfl⟩ := q4_
      obtain ⟨r4, hr4⟩ : ∃ z, z = (ownDg c2) := ⟨_, rfl⟩
      show OwnGo p e below (T4.setTop (mkF m 14 #[.val (.ref a1), .val (.int (0 : Int32)), .val (.int (2 : Int32))] [(.int (ownDg c2))])) RR
      rw [← hr4]
      by_cases hc14_5 : r4 = (0 : Int32)
      · refine own_ifY X4 own_d2_14 (teq (hc14_5)).1 (pc' := 23) (by decide) (by decide) ?_
        refine own_iloadN X4 own_d2_23 (pc' := 24) rfl rfl ?_
        exact own_retI X4 own_d2_24 ⟨(by simp_all), rfl⟩ (by decide) (by decide)
      · refine own_ifN X4 own_d2_14 (feq (hc14_5)).1 (pc' := 17) rfl ?_
        refine own_iinc X4 own_d2_17 (pc' := 20) rfl rfl (y := (3 : Int32)) rfl (l' := #[.val (.ref a1), .val (.int (0 : Int32)), .val (.int (3 : Int32))]) rfl ?_
        refine own_goto X4 own_d2_20 (pc' := 2) (by decide) (by decide) ?_
        refine own_iloadN X4 own_d2_2 (pc' := 3) rfl rfl ?_
        refine own_aloadN X4 own_d2_3 (pc' := 4) rfl rfl rfl ?_
        refine own_arraylength X4 own_d2_4 V_a1 (n := (4 : Int32)) rfl (pc' := 5) rfl ?_
        refine own_icN X4 own_d2_5 (tlt ((by decide : (3 : Int32) < (4 : Int32)))).2.1 (pc' := 8) rfl ?_
        refine own_aloadN X4 own_d2_8 (pc' := 9) rfl rfl rfl ?_
        refine own_iloadN X4 own_d2_9 (pc' := 10) rfl rfl ?_
        refine own_caload X4 own_d2_10 V_a1 (by decide) (v := (.int c3)) rfl (pc' := 11) rfl ?_
        refine own_callS (argsL := [(.int c3)]) X4 own_d2_11 (y := (⟨"com/example/outcry/outcry/market/Characters", "isDigit", "(C)Z"⟩ : MethodName)) (by decide) (hw _ (List.mem_of_getElem? (i := 10) rfl)) (hw _ (List.mem_of_getElem? (i := 11) rfl)) (hw _ (List.mem_of_getElem? (i := 12) rfl)) (hw _ (List.mem_of_getElem? (i := 8) rfl)) (own_rm3 l Z a0 hw c3 h0 n0 Z0 ) own_pd0 rfl (S := []) rfl (pc' := 14) rfl rfl (W := 0) (Nat.le_of_eq rfl) (by decide) (by decide) (by decide) (by decide) ?_
        intro T6 h6 v6_ X6 q6_
        obtain ⟨rfl, rfl⟩ := q6_
        obtain ⟨r6, hr6⟩ : ∃ z, z = (ownDg c3) := ⟨_, rfl⟩
        show OwnGo p e below (T6.setTop (mkF m 14 #[.val (.ref a1), .val (.int (0 : Int32)), .val (.int (3 : Int32))] [(.int (ownDg c3))])) RR
        rw [← hr6]
        by_cases hc14_7 : r6 = (0 : Int32)
        · refine own_ifY X6 own_d2_14 (teq (hc14_7)).1 (pc' := 23) (by decide) (by decide) ?_
          refine own_iloadN X6 own_d2_23 (pc' := 24) rfl rfl ?_
          exact own_retI X6 own_d2_24 ⟨(by simp_all), rfl⟩ (by decide) (by decide)
        · refine own_ifN X6 own_d2_14 (feq (hc14_7)).1 (pc' := 17) rfl ?_
          refine own_iinc X6 own_d2_17 (pc' := 20) rfl rfl (y := (4 : Int32)) rfl (l' := #[.val (.ref a1), .val (.int (0 : Int32)), .val (.int (4 : Int32))]) rfl ?_
          refine own_goto X6 own_d2_20 (pc' := 2) (by decide) (by decide) ?_
          refine own_iloadN X6 own_d2_2 (pc' := 3) rfl rfl ?_
          refine own_aloadN X6 own_d2_3 (pc' := 4) rfl rfl rfl ?_
          refine own_arraylength X6 own_d2_4 V_a1 (n := (4 : Int32)) rfl (pc' := 5) rfl ?_
          refine own_icY X6 own_d2_5 (flt ((by decide : ¬ ((4 : Int32) < (4 : Int32))))).2.1 (pc' := 23) (by decide) (by decide) ?_
          refine own_iloadN X6 own_d2_23 (pc' := 24) rfl rfl ?_
          exact own_retI X6 own_d2_24 ⟨(by simp_all), rfl⟩ (by decide) (by decide)
theorem own_ef2_1 (m : MethodId) (x0 : Addr) (x1 : Int32) : entryFrame m #[(.ref x0), (.int x1)] 3 = mkF m 0 #[.val (.ref x0), .val (.int x1), .unset] [] := by first | (simp [entryFrame, mkF, argsToLocals, Value.category]; done) | rfl
theorem own_pn2_1 : plainFor (⟨"com/example/outcry/outcry/market/Characters", "digitsFrom", "([CI)I"⟩ : MethodName) = true := by first | exact plainFor_of_name (by first | (simp [plainName, overriddenIn]; done) | decide +kernel) | exact Jvm.Free.JP.mathPlain rfl (by decide +kernel)
set_option maxRecDepth 65536 in
set_option maxHeartbeats 40000000 in
theorem own_rm2_1 (l : Launch) (Z : State) (a0 : Array Value) (hw : ∀ d ∈ tables_1, d.before a0 Z = true) (a1 : Addr) (c0 : Int32) (c1 : Int32) (c2 : Int32) (c3 : Int32) (h0 : Heap) (n0 : Nat) (Z0 : n0 ≤ h0.size) (V_a1 : OwnAr Z h0 a1 .char [(.int c0), (.int c1), (.int c2), (.int c3)]) :
    OwnMet l Z (⟨"com/example/outcry/outcry/market/Characters", "digitsFrom", "([CI)I"⟩ : MethodName) prog_13_method_3_code 3 (some .int) ({ frames := 1, cells := 0, slots := 0, locals := 12 } : Room) #[(.ref a1), (.int (1 : Int32))] h0 n0 (fun v h => v = some (.int (if ownDg c1 = (0 : Int32) then (1 : Int32) else (if ownDg c2 = (0 : Int32) then (2 : Int32) else (if ownDg c3 = (0 : Int32) then (3 : Int32) else (4 : Int32))))) ∧ h0 = h) := by
  refine own_body own_pn2_1 ?_
  intro p e s m below meth c s₁ RR X0
  refine own_enter (own_ef2_1 m a1 (1 : Int32)) ?_
  refine own_iloadN X0 own_d2_0 (pc' := 1) rfl rfl ?_
  refine own_istoreN X0 own_d2_1 (pc' := 2) rfl (l' := #[.val (.ref a1), .val (.int (1 : Int32)), .val (.int (1 : Int32))]) rfl ?_
  refine own_iloadN X0 own_d2_2 (pc' := 3) rfl rfl ?_
  refine own_aloadN X0 own_d2_3 (pc' := 4) rfl rfl rfl ?_
  refine own_arraylength X0 own_d2_4 V_a1 (n := (4 : Int32)) rfl (pc' := 5) rfl ?_
  refine own_icN X0 own_d2_5 (tlt ((by decide : (1 : Int32) < (4 : Int32)))).2.1 (pc' := 8) rfl ?_
  refine own_aloadN X0 own_d2_8 (pc' := 9) rfl rfl rfl ?_
  refine own_iloadN X0 own_d2_9 (pc' := 10) rfl rfl ?_
  refine own_caload X0 own_d2_10 V_a1 (by decide) (v := (.int c1)) rfl (pc' := 11) rfl ?_
  refine own_callS (argsL := [(.int c1)]) X0 own_d2_11 (y := (⟨"com/example/outcry/outcry/market/Characters", "isDigit", "(C)Z"⟩ : MethodName)) (by decide) (hw _ (List.mem_of_getElem? (i := 10) rfl)) (hw _ (List.mem_of_getElem? (i := 11) rfl)) (hw _ (List.mem_of_getElem? (i := 12) rfl)) (hw _ (List.mem_of_getElem? (i := 8) rfl)) (own_rm3 l Z a0 hw c1 h0 n0 Z0 ) own_pd0 rfl (S := []) rfl (pc' := 14) rfl rfl (W := 0) (Nat.le_of_eq rfl) (by decide) (by decide) (by decide) (by decide) ?_
  intro T1 h1 v1_ X1 q1_
  obtain ⟨rfl, rfl⟩ := q1_
  obtain ⟨r1, hr1⟩ : ∃ z, z = (ownDg c1) := ⟨_, rfl⟩
  show OwnGo p e below (T1.setTop (mkF m 14 #[.val (.ref a1), .val (.int (1 : Int32)), .val (.int (1 : Int32))] [(.int (ownDg c1))])) RR
  rw [← hr1]
  by_cases hc14 : r1 = (0 : Int32)
  · refine own_ifY X1 own_d2_14 (teq (hc14)).1 (pc' := 23) (by decide) (by decide) ?_
    refine own_iloadN X1 own_d2_23 (pc' := 24) rfl rfl ?_
    exact own_retI X1 own_d2_24 ⟨(by simp_all), rfl⟩ (by decide) (by decide)
  · refine own_ifN X1 own_d2_14 (feq (hc14)).1 (pc' := 17) rfl ?_
    refine own_iinc X1 own_d2_17 (pc' := 20) rfl rfl (y := (2 : Int32)) rfl (l' := #[.val (.ref a1), .val (.int (1 : Int32)), .val (.int (2 : Int32))]) rfl ?_
    refine own_goto X1 own_d2_20 (pc' := 2) (by decide) (by decide) ?_
    refine own_iloadN X1 own_d2_2 (pc' := 3) rfl rfl ?_
    refine own_aloadN X1 own_d2_3 (pc' := 4) rfl rfl rfl ?_
    refine own_arraylength X1 own_d2_4 V_a1 (n := (4 : Int32)) rfl (pc' := 5) rfl ?_
    refine own_icN X1 own_d2_5 (tlt ((by decide : (2 : Int32) < (4 : Int32)))).2.1 (pc' := 8) rfl ?_
    refine own_aloadN X1 own_d2_8 (pc' := 9) rfl rfl rfl ?_
    refine own_iloadN X1 own_d2_9 (pc' := 10) rfl rfl ?_
    refine own_caload X1 own_d2_10 V_a1 (by decide) (v := (.int c2)) rfl (pc' := 11) rfl ?_
    refine own_callS (argsL := [(.int c2)]) X1 own_d2_11 (y := (⟨"com/example/outcry/outcry/market/Characters", "isDigit", "(C)Z"⟩ : MethodName)) (by decide) (hw _ (List.mem_of_getElem? (i := 10) rfl)) (hw _ (List.mem_of_getElem? (i := 11) rfl)) (hw _ (List.mem_of_getElem? (i := 12) rfl)) (hw _ (List.mem_of_getElem? (i := 8) rfl)) (own_rm3 l Z a0 hw c2 h0 n0 Z0 ) own_pd0 rfl (S := []) rfl (pc' := 14) rfl rfl (W := 0) (Nat.le_of_eq rfl) (by decide) (by decide) (by decide) (by decide) ?_
    intro T2 h2 v2_ X2 q2_
    obtain ⟨rfl, rfl⟩ := q2_
    obtain ⟨r2, hr2⟩ : ∃ z, z = (ownDg c2) := ⟨_, rfl⟩
    show OwnGo p e below (T2.setTop (mkF m 14 #[.val (.ref a1), .val (.int (1 : Int32)), .val (.int (2 : Int32))] [(.int (ownDg c2))])) RR
    rw [← hr2]
    by_cases hc14_3 : r2 = (0 : Int32)
    · refine own_ifY X2 own_d2_14 (teq (hc14_3)).1 (pc' := 23) (by decide) (by decide) ?_
      refine own_iloadN X2 own_d2_23 (pc' := 24) rfl rfl ?_
      exact own_retI X2 own_d2_24 ⟨(by simp_all), rfl⟩ (by decide) (by decide)
    · refine own_ifN X2 own_d2_14 (feq (hc14_3)).1 (pc' := 17) rfl ?_
      refine own_iinc X2 own_d2_17 (pc' := 20) rfl rfl (y := (3 : Int32)) rfl (l' := #[.val (.ref a1), .val (.int (1 : Int32)), .val (.int (3 : Int32))]) rfl ?_
      refine own_goto X2 own_d2_20 (pc' := 2) (by decide) (by decide) ?_
      refine own_iloadN X2 own_d2_2 (pc' := 3) rfl rfl ?_
      refine own_aloadN X2 own_d2_3 (pc' := 4) rfl rfl rfl ?_
      refine own_arraylength X2 own_d2_4 V_a1 (n := (4 : Int32)) rfl (pc' := 5) rfl ?_
      refine own_icN X2 own_d2_5 (tlt ((by decide : (3 : Int32) < (4 : Int32)))).2.1 (pc' := 8) rfl ?_
      refine own_aloadN X2 own_d2_8 (pc' := 9) rfl rfl rfl ?_
      refine own_iloadN X2 own_d2_9 (pc' := 10) rfl rfl ?_
      refine own_caload X2 own_d2_10 V_a1 (by decide) (v := (.int c3)) rfl (pc' := 11) rfl ?_
      refine own_callS (argsL := [(.int c3)]) X2 own_d2_11 (y := (⟨"com/example/outcry/outcry/market/Characters", "isDigit", "(C)Z"⟩ : MethodName)) (by decide) (hw _ (List.mem_of_getElem? (i := 10) rfl)) (hw _ (List.mem_of_getElem? (i := 11) rfl)) (hw _ (List.mem_of_getElem? (i := 12) rfl)) (hw _ (List.mem_of_getElem? (i := 8) rfl)) (own_rm3 l Z a0 hw c3 h0 n0 Z0 ) own_pd0 rfl (S := []) rfl (pc' := 14) rfl rfl (W := 0) (Nat.le_of_eq rfl) (by decide) (by decide) (by decide) (by decide) ?_
      intro T4 h4 v4_ X4 q4_
      obtain ⟨rfl, rfl⟩ := q4_
      obtain ⟨r4, hr4⟩ : ∃ z, z = (ownDg c3) := ⟨_, rfl⟩
      show OwnGo p e below (T4.setTop (mkF m 14 #[.val (.ref a1), .val (.int (1 : Int32)), .val (.int (3 : Int32))] [(.int (ownDg c3))])) RR
      rw [← hr4]
      by_cases hc14_5 : r4 = (0 : Int32)
      · refine own_ifY X4 own_d2_14 (teq (hc14_5)).1 (pc' := 23) (by decide) (by decide) ?_
        refine own_iloadN X4 own_d2_23 (pc' := 24) rfl rfl ?_
        exact own_retI X4 own_d2_24 ⟨(by simp_all), rfl⟩ (by decide) (by decide)
      · refine own_ifN X4 own_d2_14 (feq (hc14_5)).1 (pc' := 17) rfl ?_
        refine own_iinc X4 own_d2_17 (pc' := 20) rfl rfl (y := (4 : Int32)) rfl (l' := #[.val (.ref a1), .val (.int (1 : Int32)), .val (.int (4 : Int32))]) rfl ?_
        refine own_goto X4 own_d2_20 (pc' := 2) (by decide) (by decide) ?_
        refine own_iloadN X4 own_d2_2 (pc' := 3) rfl rfl ?_
        refine own_aloadN X4 own_d2_3 (pc' := 4) rfl rfl rfl ?_
        refine own_arraylength X4 own_d2_4 V_a1 (n := (4 : Int32)) rfl (pc' := 5) rfl ?_
        refine own_icY X4 own_d2_5 (flt ((by decide : ¬ ((4 : Int32) < (4 : Int32))))).2.1 (pc' := 23) (by decide) (by decide) ?_
        refine own_iloadN X4 own_d2_23 (pc' := 24) rfl rfl ?_
        exact own_retI X4 own_d2_24 ⟨(by simp_all), rfl⟩ (by decide) (by decide)
theorem own_ef2_2 (m : MethodId) (x0 : Addr) (x1 : Int32) : entryFrame m #[(.ref x0), (.int x1)] 3 = mkF m 0 #[.val (.ref x0), .val (.int x1), .unset] [] := by first | (simp [entryFrame, mkF, argsToLocals, Value.category]; done) | rfl
theorem own_pn2_2 : plainFor (⟨"com/example/outcry/outcry/market/Characters", "digitsFrom", "([CI)I"⟩ : MethodName) = true := by first | exact plainFor_of_name (by first | (simp [plainName, overriddenIn]; done) | decide +kernel) | exact Jvm.Free.JP.mathPlain rfl (by decide +kernel)
set_option maxRecDepth 65536 in
set_option maxHeartbeats 40000000 in
theorem own_rm2_2 (l : Launch) (Z : State) (a0 : Array Value) (hw : ∀ d ∈ tables_1, d.before a0 Z = true) (a1 : Addr) (c0 : Int32) (c1 : Int32) (c2 : Int32) (c3 : Int32) (h0 : Heap) (n0 : Nat) (Z0 : n0 ≤ h0.size) (V_a1 : OwnAr Z h0 a1 .char [(.int c0), (.int c1), (.int c2), (.int c3)]) :
    OwnMet l Z (⟨"com/example/outcry/outcry/market/Characters", "digitsFrom", "([CI)I"⟩ : MethodName) prog_13_method_3_code 3 (some .int) ({ frames := 1, cells := 0, slots := 0, locals := 12 } : Room) #[(.ref a1), (.int (2 : Int32))] h0 n0 (fun v h => v = some (.int (if ownDg c2 = (0 : Int32) then (2 : Int32) else (if ownDg c3 = (0 : Int32) then (3 : Int32) else (4 : Int32)))) ∧ h0 = h) := by
  refine own_body own_pn2_2 ?_
  intro p e s m below meth c s₁ RR X0
  refine own_enter (own_ef2_2 m a1 (2 : Int32)) ?_
  refine own_iloadN X0 own_d2_0 (pc' := 1) rfl rfl ?_
  refine own_istoreN X0 own_d2_1 (pc' := 2) rfl (l' := #[.val (.ref a1), .val (.int (2 : Int32)), .val (.int (2 : Int32))]) rfl ?_
  refine own_iloadN X0 own_d2_2 (pc' := 3) rfl rfl ?_
  refine own_aloadN X0 own_d2_3 (pc' := 4) rfl rfl rfl ?_
  refine own_arraylength X0 own_d2_4 V_a1 (n := (4 : Int32)) rfl (pc' := 5) rfl ?_
  refine own_icN X0 own_d2_5 (tlt ((by decide : (2 : Int32) < (4 : Int32)))).2.1 (pc' := 8) rfl ?_
  refine own_aloadN X0 own_d2_8 (pc' := 9) rfl rfl rfl ?_
  refine own_iloadN X0 own_d2_9 (pc' := 10) rfl rfl ?_
  refine own_caload X0 own_d2_10 V_a1 (by decide) (v := (.int c2)) rfl (pc' := 11) rfl ?_
  refine own_callS (argsL := [(.int c2)]) X0 own_d2_11 (y := (⟨"com/example/outcry/outcry/market/Characters", "isDigit", "(C)Z"⟩ : MethodName)) (by decide) (hw _ (List.mem_of_getElem? (i := 10) rfl)) (hw _ (List.mem_of_getElem? (i := 11) rfl)) (hw _ (List.mem_of_getElem? (i := 12) rfl)) (hw _ (List.mem_of_getElem? (i := 8) rfl)) (own_rm3 l Z a0 hw c2 h0 n0 Z0 ) own_pd0 rfl (S := []) rfl (pc' := 14) rfl rfl (W := 0) (Nat.le_of_eq rfl) (by decide) (by decide) (by decide) (by decide) ?_
  intro T1 h1 v1_ X1 q1_
  obtain ⟨rfl, rfl⟩ := q1_
  obtain ⟨r1, hr1⟩ : ∃ z, z = (ownDg c2) := ⟨_, rfl⟩
  show OwnGo p e below (T1.setTop (mkF m 14 #[.val (.ref a1), .val (.int (2 : Int32)), .val (.int (2 : Int32))] [(.int (ownDg c2))])) RR
  rw [← hr1]
  by_cases hc14 : r1 = (0 : Int32)
  · refine own_ifY X1 own_d2_14 (teq (hc14)).1 (pc' := 23) (by decide) (by decide) ?_
    refine own_iloadN X1 own_d2_23 (pc' := 24) rfl rfl ?_
    exact own_retI X1 own_d2_24 ⟨(by simp_all), rfl⟩ (by decide) (by decide)
  · refine own_ifN X1 own_d2_14 (feq (hc14)).1 (pc' := 17) rfl ?_
    refine own_iinc X1 own_d2_17 (pc' := 20) rfl rfl (y := (3 : Int32)) rfl (l' := #[.val (.ref a1), .val (.int (2 : Int32)), .val (.int (3 : Int32))]) rfl ?_
    refine own_goto X1 own_d2_20 (pc' := 2) (by decide) (by decide) ?_
    refine own_iloadN X1 own_d2_2 (pc' := 3) rfl rfl ?_
    refine own_aloadN X1 own_d2_3 (pc' := 4) rfl rfl rfl ?_
    refine own_arraylength X1 own_d2_4 V_a1 (n := (4 : Int32)) rfl (pc' := 5) rfl ?_
    refine own_icN X1 own_d2_5 (tlt ((by decide : (3 : Int32) < (4 : Int32)))).2.1 (pc' := 8) rfl ?_
    refine own_aloadN X1 own_d2_8 (pc' := 9) rfl rfl rfl ?_
    refine own_iloadN X1 own_d2_9 (pc' := 10) rfl rfl ?_
    refine own_caload X1 own_d2_10 V_a1 (by decide) (v := (.int c3)) rfl (pc' := 11) rfl ?_
    refine own_callS (argsL := [(.int c3)]) X1 own_d2_11 (y := (⟨"com/example/outcry/outcry/market/Characters", "isDigit", "(C)Z"⟩ : MethodName)) (by decide) (hw _ (List.mem_of_getElem? (i := 10) rfl)) (hw _ (List.mem_of_getElem? (i := 11) rfl)) (hw _ (List.mem_of_getElem? (i := 12) rfl)) (hw _ (List.mem_of_getElem? (i := 8) rfl)) (own_rm3 l Z a0 hw c3 h0 n0 Z0 ) own_pd0 rfl (S := []) rfl (pc' := 14) rfl rfl (W := 0) (Nat.le_of_eq rfl) (by decide) (by decide) (by decide) (by decide) ?_
    intro T2 h2 v2_ X2 q2_
    obtain ⟨rfl, rfl⟩ := q2_
    obtain ⟨r2, hr2⟩ : ∃ z, z = (ownDg c3) := ⟨_, rfl⟩
    show OwnGo p e below (T2.setTop (mkF m 14 #[.val (.ref a1), .val (.int (2 : Int32)), .val (.int (3 : Int32))] [(.int (ownDg c3))])) RR
    rw [← hr2]
    by_cases hc14_3 : r2 = (0 : Int32)
    · refine own_ifY X2 own_d2_14 (teq (hc14_3)).1 (pc' := 23) (by decide) (by decide) ?_
      refine own_iloadN X2 own_d2_23 (pc' := 24) rfl rfl ?_
      exact own_retI X2 own_d2_24 ⟨(by simp_all), rfl⟩ (by decide) (by decide)
    · refine own_ifN X2 own_d2_14 (feq (hc14_3)).1 (pc' := 17) rfl ?_
      refine own_iinc X2 own_d2_17 (pc' := 20) rfl rfl (y := (4 : Int32)) rfl (l' := #[.val (.ref a1), .val (.int (2 : Int32)), .val (.int (4 : Int32))]) rfl ?_
      refine own_goto X2 own_d2_20 (pc' := 2) (by decide) (by decide) ?_
      refine own_iloadN X2 own_d2_2 (pc' := 3) rfl rfl ?_
      refine own_aloadN X2 own_d2_3 (pc' := 4) rfl rfl rfl ?_
      refine own_arraylength X2 own_d2_4 V_a1 (n := (4 : Int32)) rfl (pc' := 5) rfl ?_
      refine own_icY X2 own_d2_5 (flt ((by decide : ¬ ((4 : Int32) < (4 : Int32))))).2.1 (pc' := 23) (by decide) (by decide) ?_
      refine own_iloadN X2 own_d2_23 (pc' := 24) rfl rfl ?_
      exact own_retI X2 own_d2_24 ⟨(by simp_all), rfl⟩ (by decide) (by decide)
theorem own_ef2_3 (m : MethodId) (x0 : Addr) (x1 : Int32) : entryFrame m #[(.ref x0), (.int x1)] 3 = mkF m 0 #[.val (.ref x0), .val (.int x1), .unset] [] := by first | (simp [entryFrame, mkF, argsToLocals, Value.category]; done) | rfl
theorem own_pn2_3 : plainFor (⟨"com/example/outcry/outcry/market/Characters", "digitsFrom", "([CI)I"⟩ : MethodName) = true := by first | exact plainFor_of_name (by first | (simp [plainName, overriddenIn]; done) | decide +kernel) | exact Jvm.Free.JP.mathPlain rfl (by decide +kernel)
set_option maxRecDepth 65536 in
set_option maxHeartbeats 40000000 in
theorem own_rm2_3 (l : Launch) (Z : State) (a0 : Array Value) (hw : ∀ d ∈ tables_1, d.before a0 Z = true) (a1 : Addr) (c0 : Int32) (c1 : Int32) (c2 : Int32) (c3 : Int32) (h0 : Heap) (n0 : Nat) (Z0 : n0 ≤ h0.size) (V_a1 : OwnAr Z h0 a1 .char [(.int c0), (.int c1), (.int c2), (.int c3)]) :
    OwnMet l Z (⟨"com/example/outcry/outcry/market/Characters", "digitsFrom", "([CI)I"⟩ : MethodName) prog_13_method_3_code 3 (some .int) ({ frames := 1, cells := 0, slots := 0, locals := 12 } : Room) #[(.ref a1), (.int (3 : Int32))] h0 n0 (fun v h => v = some (.int (if ownDg c3 = (0 : Int32) then (3 : Int32) else (4 : Int32))) ∧ h0 = h) := by
  refine own_body own_pn2_3 ?_
  intro p e s m below meth c s₁ RR X0
  refine own_enter (own_ef2_3 m a1 (3 : Int32)) ?_
  refine own_iloadN X0 own_d2_0 (pc' := 1) rfl rfl ?_
  refine own_istoreN X0 own_d2_1 (pc' := 2) rfl (l' := #[.val (.ref a1), .val (.int (3 : Int32)), .val (.int (3 : Int32))]) rfl ?_
  refine own_iloadN X0 own_d2_2 (pc' := 3) rfl rfl ?_
  refine own_aloadN X0 own_d2_3 (pc' := 4) rfl rfl rfl ?_
  refine own_arraylength X0 own_d2_4 V_a1 (n := (4 : Int32)) rfl (pc' := 5) rfl ?_
  refine own_icN X0 own_d2_5 (tlt ((by decide : (3 : Int32) < (4 : Int32)))).2.1 (pc' := 8) rfl ?_
  refine own_aloadN X0 own_d2_8 (pc' := 9) rfl rfl rfl ?_
  refine own_iloadN X0 own_d2_9 (pc' := 10) rfl rfl ?_
  refine own_caload X0 own_d2_10 V_a1 (by decide) (v := (.int c3)) rfl (pc' := 11) rfl ?_
  refine own_callS (argsL := [(.int c3)]) X0 own_d2_11 (y := (⟨"com/example/outcry/outcry/market/Characters", "isDigit", "(C)Z"⟩ : MethodName)) (by decide) (hw _ (List.mem_of_getElem? (i := 10) rfl)) (hw _ (List.mem_of_getElem? (i := 11) rfl)) (hw _ (List.mem_of_getElem? (i := 12) rfl)) (hw _ (List.mem_of_getElem? (i := 8) rfl)) (own_rm3 l Z a0 hw c3 h0 n0 Z0 ) own_pd0 rfl (S := []) rfl (pc' := 14) rfl rfl (W := 0) (Nat.le_of_eq rfl) (by decide) (by decide) (by decide) (by decide) ?_
  intro T1 h1 v1_ X1 q1_
  obtain ⟨rfl, rfl⟩ := q1_
  obtain ⟨r1, hr1⟩ : ∃ z, z = (ownDg c3) := ⟨_, rfl⟩
  show OwnGo p e below (T1.setTop (mkF m 14 #[.val (.ref a1), .val (.int (3 : Int32)), .val (.int (3 : Int32))] [(.int (ownDg c3))])) RR
  rw [← hr1]
  by_cases hc14 : r1 = (0 : Int32)
  · refine own_ifY X1 own_d2_14 (teq (hc14)).1 (pc' := 23) (by decide) (by decide) ?_
    refine own_iloadN X1 own_d2_23 (pc' := 24) rfl rfl ?_
    exact own_retI X1 own_d2_24 ⟨(by simp_all), rfl⟩ (by decide) (by decide)
  · refine own_ifN X1 own_d2_14 (feq (hc14)).1 (pc' := 17) rfl ?_
    refine own_iinc X1 own_d2_17 (pc' := 20) rfl rfl (y := (4 : Int32)) rfl (l' := #[.val (.ref a1), .val (.int (3 : Int32)), .val (.int (4 : Int32))]) rfl ?_
    refine own_goto X1 own_d2_20 (pc' := 2) (by decide) (by decide) ?_
    refine own_iloadN X1 own_d2_2 (pc' := 3) rfl rfl ?_
    refine own_aloadN X1 own_d2_3 (pc' := 4) rfl rfl rfl ?_
    refine own_arraylength X1 own_d2_4 V_a1 (n := (4 : Int32)) rfl (pc' := 5) rfl ?_
    refine own_icY X1 own_d2_5 (flt ((by decide : ¬ ((4 : Int32) < (4 : Int32))))).2.1 (pc' := 23) (by decide) (by decide) ?_
    refine own_iloadN X1 own_d2_23 (pc' := 24) rfl rfl ?_
    exact own_retI X1 own_d2_24 ⟨(by simp_all), rfl⟩ (by decide) (by decide)
theorem own_ef2_4 (m : MethodId) (x0 : Addr) (x1 : Int32) : entryFrame m #[(.ref x0), (.int x1)] 3 = mkF m 0 #[.val (.ref x0), .val (.int x1), .unset] [] := by first | (simp [entryFrame, mkF, argsToLocals, Value.category]; done) | rfl
theorem own_pn2_4 : plainFor (⟨"com/example/outcry/outcry/market/Characters", "digitsFrom", "([CI)I"⟩ : MethodName) = true := by first | exact plainFor_of_name (by first | (simp [plainName, overriddenIn]; done) | decide +kernel) | exact Jvm.Free.JP.mathPlain rfl (by decide +kernel)
set_option maxRecDepth 65536 in
set_option maxHeartbeats 40000000 in
theorem own_rm2_4 (l : Launch) (Z : State) (a0 : Array Value) (hw : ∀ d ∈ tables_1, d.before a0 Z = true) (a1 : Addr) (c0 : Int32) (c1 : Int32) (c2 : Int32) (c3 : Int32) (h0 : Heap) (n0 : Nat) (Z0 : n0 ≤ h0.size) (V_a1 : OwnAr Z h0 a1 .char [(.int c0), (.int c1), (.int c2), (.int c3)]) :
    OwnMet l Z (⟨"com/example/outcry/outcry/market/Characters", "digitsFrom", "([CI)I"⟩ : MethodName) prog_13_method_3_code 3 (some .int) ({ frames := 1, cells := 0, slots := 0, locals := 12 } : Room) #[(.ref a1), (.int (4 : Int32))] h0 n0 (fun v h => v = some (.int (4 : Int32)) ∧ h0 = h) := by
  refine own_body own_pn2_4 ?_
  intro p e s m below meth c s₁ RR X0
  refine own_enter (own_ef2_4 m a1 (4 : Int32)) ?_
  refine own_iloadN X0 own_d2_0 (pc' := 1) rfl rfl ?_
  refine own_istoreN X0 own_d2_1 (pc' := 2) rfl (l' := #[.val (.ref a1), .val (.int (4 : Int32)), .val (.int (4 : Int32))]) rfl ?_
  refine own_iloadN X0 own_d2_2 (pc' := 3) rfl rfl ?_
  refine own_aloadN X0 own_d2_3 (pc' := 4) rfl rfl rfl ?_
  refine own_arraylength X0 own_d2_4 V_a1 (n := (4 : Int32)) rfl (pc' := 5) rfl ?_
  refine own_icY X0 own_d2_5 (flt ((by decide : ¬ ((4 : Int32) < (4 : Int32))))).2.1 (pc' := 23) (by decide) (by decide) ?_
  refine own_iloadN X0 own_d2_23 (pc' := 24) rfl rfl ?_
  exact own_retI X0 own_d2_24 ⟨(by simp_all), rfl⟩ (by decide) (by decide)
def ownDF (c0 c1 c2 c3 f : Int32) : Int32 := if f = 0 then (if ownDg c0 = (0 : Int32) then (0 : Int32) else (if ownDg c1 = (0 : Int32) then (1 : Int32) else (if ownDg c2 = (0 : Int32) then (2 : Int32) else (if ownDg c3 = (0 : Int32) then (3 : Int32) else (4 : Int32))))) else if f = 1 then (if ownDg c1 = (0 : Int32) then (1 : Int32) else (if ownDg c2 = (0 : Int32) then (2 : Int32) else (if ownDg c3 = (0 : Int32) then (3 : Int32) else (4 : Int32)))) else if f = 2 then (if ownDg c2 = (0 : Int32) then (2 : Int32) else (if ownDg c3 = (0 : Int32) then (3 : Int32) else (4 : Int32))) else if f = 3 then (if ownDg c3 = (0 : Int32) then (3 : Int32) else (4 : Int32)) else 4
theorem own_rm2 (l : Launch) (Z : State) (a0 : Array Value) (hw : ∀ d ∈ tables_1, d.before a0 Z = true) (a1 : Addr) (c0 c1 c2 c3 f1 : Int32) (h0 : Heap) (n0 : Nat) (Z0 : n0 ≤ h0.size) (V_a1 : OwnAr Z h0 a1 .char [(.int c0), (.int c1), (.int c2), (.int c3)]) (hf : f1 = 0 ∨ f1 = 1 ∨ f1 = 2 ∨ f1 = 3 ∨ f1 = 4) :
    OwnMet l Z (⟨"com/example/outcry/outcry/market/Characters", "digitsFrom", "([CI)I"⟩ : MethodName) prog_13_method_3_code 3 (some .int) ({ frames := 1, cells := 0, slots := 0, locals := 12 } : Room) #[(.ref a1), (.int f1)] h0 n0 (fun v h => v = some (.int (ownDF c0 c1 c2 c3 f1)) ∧ h0 = h) := by
  rcases hf with rfl | rfl | rfl | rfl | rfl
  · rw [show ownDF c0 c1 c2 c3 (0 : Int32) = (if ownDg c0 = (0 : Int32) then (0 : Int32) else (if ownDg c1 = (0 : Int32) then (1 : Int32) else (if ownDg c2 = (0 : Int32) then (2 : Int32) else (if ownDg c3 = (0 : Int32) then (3 : Int32) else (4 : Int32))))) from by simp [ownDF]]; exact own_rm2_0 l Z a0 hw a1 c0 c1 c2 c3 h0 n0 Z0 V_a1
  · rw [show ownDF c0 c1 c2 c3 (1 : Int32) = (if ownDg c1 = (0 : Int32) then (1 : Int32) else (if ownDg c2 = (0 : Int32) then (2 : Int32) else (if ownDg c3 = (0 : Int32) then (3 : Int32) else (4 : Int32)))) from by simp [ownDF]]; exact own_rm2_1 l Z a0 hw a1 c0 c1 c2 c3 h0 n0 Z0 V_a1
  · rw [show ownDF c0 c1 c2 c3 (2 : Int32) = (if ownDg c2 = (0 : Int32) then (2 : Int32) else (if ownDg c3 = (0 : Int32) then (3 : Int32) else (4 : Int32))) from by simp [ownDF]]; exact own_rm2_2 l Z a0 hw a1 c0 c1 c2 c3 h0 n0 Z0 V_a1
  · rw [show ownDF c0 c1 c2 c3 (3 : Int32) = (if ownDg c3 = (0 : Int32) then (3 : Int32) else (4 : Int32)) from by simp [ownDF]]; exact own_rm2_3 l Z a0 hw a1 c0 c1 c2 c3 h0 n0 Z0 V_a1
  · rw [show ownDF c0 c1 c2 c3 (4 : Int32) = (4 : Int32) from by simp [ownDF]]; exact own_rm2_4 l Z a0 hw a1 c0 c1 c2 c3 h0 n0 Z0 V_a1
theorem own_fin (c0 c1 c2 c3 f e3 e2 e1 e0 : Int32) (hf : f = 0 ∨ f = 1 ∨ f = 2 ∨ f = 3 ∨ f = 4) (h3 : e3 = (if (3 : Int32) < f then (4 : Int32) else (if (ownDg c3) = (0 : Int32) then (3 : Int32) else (4 : Int32)))) (h2 : e2 = (if (2 : Int32) < f then e3 else (if (ownDg c2) = (0 : Int32) then (2 : Int32) else e3))) (h1 : e1 = (if (1 : Int32) < f then e2 else (if (ownDg c1) = (0 : Int32) then (1 : Int32) else e2))) (h0 : e0 = (if (0 : Int32) < f then e1 else (if (ownDg c0) = (0 : Int32) then (0 : Int32) else e1))) : ownDF c0 c1 c2 c3 f = e0 := by
  subst h0 h1 h2 h3
  rcases hf with rfl | rfl | rfl | rfl | rfl <;> simp [ownDF]
theorem own_pd1 : parseMethodDescriptor "([CI)I" = some ⟨[(.array .char), .int], some .int⟩ := by decide +kernel
theorem own_ef0 (m : MethodId) (x0 : Int32) (x1 : Int32) (x2 : Int32) (x3 : Int32) (x4 : Int32) : entryFrame m #[(.int x0), (.int x1), (.int x2), (.int x3), (.int x4)] maxLocals = mkF m 0 #[.val (.int x0), .val (.int x1), .val (.int x2), .val (.int x3), .val (.int x4), .unset, .unset, .unset, .unset, .unset, .unset, .unset, .unset, .unset] [] := by first | (simp [entryFrame, mkF, argsToLocals, Value.category, maxLocals]; done) | rfl
theorem own_pn0 : plainFor x = true := by first | exact plainFor_of_name (by first | (simp [plainName, overriddenIn]; done) | decide +kernel) | exact Jvm.Free.JP.mathPlain rfl (by decide +kernel)
set_option maxRecDepth 65536 in
set_option maxHeartbeats 40000000 in
theorem own_rm0 (l : Launch) (Z : State) (a0 : Array Value) (hw : ∀ d ∈ tables_1, d.before a0 Z = true) (p0 : Int32) (p1 : Int32) (p2 : Int32) (p3 : Int32) (p4 : Int32) (h0 : Heap) (n0 : Nat) (Z0 : n0 ≤ h0.size)  :
    OwnMet l Z x code maxLocals ret room_1 #[(.int p0), (.int p1), (.int p2), (.int p3), (.int p4)] h0 n0 (fun v h => v = some (.int 1)) := by
  refine own_body own_pn0 ?_
  intro p e s m below meth c s₁ RR X0
  refine own_enter (own_ef0 m p0 p1 p2 p3 p4) ?_
  refine own_iloadN X0 at_0 (pc' := 1) rfl rfl ?_
  refine own_ldcInt X0 at_1 (pc' := 3) rfl (hw _ (List.mem_of_getElem? (i := 0) rfl)) ?_
  refine own_iand X0 at_3 (pc' := 4) rfl ?_
  refine own_i2c X0 at_4 (pc' := 5) rfl ?_
  refine own_istoreV X0 at_5 (pc' := 7) rfl (l' := fun v5 => #[.val (.int p0), .val (.int p1), .val (.int p2), .val (.int p3), .val (.int p4), .val (.int v5), .unset, .unset, .unset, .unset, .unset, .unset, .unset, .unset]) (fun _ => rfl) ?_
  intro v5 hv5
  refine own_iloadN X0 at_7 (pc' := 8) rfl rfl ?_
  refine own_ldcInt X0 at_8 (pc' := 10) rfl (hw _ (List.mem_of_getElem? (i := 0) rfl)) ?_
  refine own_iand X0 at_10 (pc' := 11) rfl ?_
  refine own_i2c X0 at_11 (pc' := 12) rfl ?_
  refine own_istoreV X0 at_12 (pc' := 14) rfl (l' := fun v12 => #[.val (.int p0), .val (.int p1), .val (.int p2), .val (.int p3), .val (.int p4), .val (.int v5), .val (.int v12), .unset, .unset, .unset, .unset, .unset, .unset, .unset]) (fun _ => rfl) ?_
  intro v12 hv12
  refine own_iloadN X0 at_14 (pc' := 15) rfl rfl ?_
  refine own_ldcInt X0 at_15 (pc' := 17) rfl (hw _ (List.mem_of_getElem? (i := 0) rfl)) ?_
  refine own_iand X0 at_17 (pc' := 18) rfl ?_
  refine own_i2c X0 at_18 (pc' := 19) rfl ?_
  refine own_istoreV X0 at_19 (pc' := 21) rfl (l' := fun v19 => #[.val (.int p0), .val (.int p1), .val (.int p2), .val (.int p3), .val (.int p4), .val (.int v5), .val (.int v12), .val (.int v19), .unset, .unset, .unset, .unset, .unset, .unset]) (fun _ => rfl) ?_
  intro v19 hv19
  refine own_iloadN X0 at_21 (pc' := 22) rfl rfl ?_
  refine own_ldcInt X0 at_22 (pc' := 24) rfl (hw _ (List.mem_of_getElem? (i := 0) rfl)) ?_
  refine own_iand X0 at_24 (pc' := 25) rfl ?_
  refine own_i2c X0 at_25 (pc' := 26) rfl ?_
  refine own_istoreV X0 at_26 (pc' := 28) rfl (l' := fun v26 => #[.val (.int p0), .val (.int p1), .val (.int p2), .val (.int p3), .val (.int p4), .val (.int v5), .val (.int v12), .val (.int v19), .val (.int v26), .unset, .unset, .unset, .unset, .unset]) (fun _ => rfl) ?_
  intro v26 hv26
  refine own_iload X0 at_28 (pc' := 30) rfl rfl ?_
  refine own_bipush X0 at_30 (pc' := 32) rfl (v := (7 : Int32)) (by decide) ?_
  refine own_iand X0 at_32 (pc' := 33) rfl ?_
  refine own_iconst X0 at_33 (pc' := 34) rfl (v := (5 : Int32)) (by decide) ?_
  refine own_irem X0 at_34 (pc' := 35) rfl (by decide) ?_
  refine own_istoreV X0 at_35 (pc' := 37) rfl (l' := fun v35 => #[.val (.int p0), .val (.int p1), .val (.int p2), .val (.int p3), .val (.int p4), .val (.int v5), .val (.int v12), .val (.int v19), .val (.int v26), .val (.int v35), .unset, .unset, .unset, .unset]) (fun _ => rfl) ?_
  intro v35 hv35
  refine own_iconst X0 at_37 (pc' := 38) rfl (v := (4 : Int32)) (by decide) ?_
  refine own_newarr X0 at_38 (hw _ (List.mem_of_getElem? (i := 1) rfl)) (pc' := 40) rfl (by decide) (cap := 4) (by decide) (by decide) (by decide) (by decide) ?_
  intro T1 h1 b1 hb1 X1 E1 B1
  have g_b1 : n0 ≤ b1 := Nat.le_trans Z0 (Nat.le_of_eq hb1.symm)
  have Z1 : n0 ≤ h1.size := Nat.le_trans Z0 E1.1
  have V_b1 : OwnAr Z h1 b1 .char [(.int (0 : Int32)), (.int (0 : Int32)), (.int (0 : Int32)), (.int (0 : Int32))] := B1
  refine own_dup X1 at_40 (pc' := 41) rfl rfl ?_
  refine own_iconst X1 at_41 (pc' := 42) rfl (v := (0 : Int32)) (by decide) ?_
  refine own_iload X1 at_42 (pc' := 44) rfl rfl ?_
  refine own_castore X1 at_44 V_b1 (by decide) (Nat.le_of_ble_eq_true rfl) g_b1 (pc' := 45) rfl ?_
  intro T2 h2 X2 W2 B2
  have Z2 : n0 ≤ h2.size := Nat.le_trans Z1 (Nat.le_of_eq W2.size.symm)
  have V_b1_2 : OwnAr Z h2 b1 .char [(.int (v5.toUInt32.toUInt16.toUInt32.toInt32)), (.int (0 : Int32)), (.int (0 : Int32)), (.int (0 : Int32))] := B2
  refine own_dup X2 at_45 (pc' := 46) rfl rfl ?_
  refine own_iconst X2 at_46 (pc' := 47) rfl (v := (1 : Int32)) (by decide) ?_
  refine own_iload X2 at_47 (pc' := 49) rfl rfl ?_
  refine own_castore X2 at_49 V_b1_2 (by decide) (Nat.le_of_ble_eq_true rfl) g_b1 (pc' := 50) rfl ?_
  intro T3 h3 X3 W3 B3
  have Z3 : n0 ≤ h3.size := Nat.le_trans Z2 (Nat.le_of_eq W3.size.symm)
  have V_b1_3 : OwnAr Z h3 b1 .char [(.int (v5.toUInt32.toUInt16.toUInt32.toInt32)), (.int (v12.toUInt32.toUInt16.toUInt32.toInt32)), (.int (0 : Int32)), (.int (0 : Int32))] := B3
  refine own_dup X3 at_50 (pc' := 51) rfl rfl ?_
  refine own_iconst X3 at_51 (pc' := 52) rfl (v := (2 : Int32)) (by decide) ?_
  refine own_iload X3 at_52 (pc' := 54) rfl rfl ?_
  refine own_castore X3 at_54 V_b1_3 (by decide) (Nat.le_of_ble_eq_true rfl) g_b1 (pc' := 55) rfl ?_
  intro T4 h4 X4 W4 B4
  have Z4 : n0 ≤ h4.size := Nat.le_trans Z3 (Nat.le_of_eq W4.size.symm)
  have V_b1_4 : OwnAr Z h4 b1 .char [(.int (v5.toUInt32.toUInt16.toUInt32.toInt32)), (.int (v12.toUInt32.toUInt16.toUInt32.toInt32)), (.int (v19.toUInt32.toUInt16.toUInt32.toInt32)), (.int (0 : Int32))] := B4
  refine own_dup X4 at_55 (pc' := 56) rfl rfl ?_
  refine own_iconst X4 at_56 (pc' := 57) rfl (v := (3 : Int32)) (by decide) ?_
  refine own_iload X4 at_57 (pc' := 59) rfl rfl ?_
  refine own_castore X4 at_59 V_b1_4 (by decide) (Nat.le_of_ble_eq_true rfl) g_b1 (pc' := 60) rfl ?_
  intro T5 h5 X5 W5 B5
  have Z5 : n0 ≤ h5.size := Nat.le_trans Z4 (Nat.le_of_eq W5.size.symm)
  have V_b1_5 : OwnAr Z h5 b1 .char [(.int (v5.toUInt32.toUInt16.toUInt32.toInt32)), (.int (v12.toUInt32.toUInt16.toUInt32.toInt32)), (.int (v19.toUInt32.toUInt16.toUInt32.toInt32)), (.int (v26.toUInt32.toUInt16.toUInt32.toInt32))] := B5
  refine own_astore X5 at_60 (pc' := 62) rfl rfl (l' := #[.val (.int p0), .val (.int p1), .val (.int p2), .val (.int p3), .val (.int p4), .val (.int v5), .val (.int v12), .val (.int v19), .val (.int v26), .val (.int v35), .val (.ref b1), .unset, .unset, .unset]) rfl ?_
  refine own_iconst X5 at_62 (pc' := 63) rfl (v := (4 : Int32)) (by decide) ?_
  refine own_istore X5 at_63 (pc' := 65) rfl (l' := #[.val (.int p0), .val (.int p1), .val (.int p2), .val (.int p3), .val (.int p4), .val (.int v5), .val (.int v12), .val (.int v19), .val (.int v26), .val (.int v35), .val (.ref b1), .val (.int (4 : Int32)), .unset, .unset]) rfl ?_
  refine own_iload X5 at_65 (pc' := 67) rfl rfl ?_
  refine own_iconst X5 at_67 (pc' := 68) rfl (v := (3 : Int32)) (by decide) ?_
  have j82_6 : ∀ T6, OwnAt X5 T6 → ∀ (f82_11 : Int32), f82_11 = (if (3 : Int32) < v35 then (4 : Int32) else (if (ownDg v26) = (0 : Int32) then (3 : Int32) else (4 : Int32))) → OwnGo p e below (T6.setTop (mkF m 82 #[.val (.int p0), .val (.int p1), .val (.int p2), .val (.int p3), .val (.int p4), .val (.int v5), .val (.int v12), .val (.int v19), .val (.int v26), .val (.int v35), .val (.ref b1), .val (.int f82_11), .unset, .unset] [])) RR := by
    intro T6 X6 f82_11 hf82_11
    refine own_iload X6 at_82 (pc' := 84) rfl rfl ?_
    refine own_iconst X6 at_84 (pc' := 85) rfl (v := (2 : Int32)) (by decide) ?_
    have j99_7 : ∀ T7, OwnAt X6 T7 → ∀ (f99_11 : Int32), f99_11 = (if (2 : Int32) < v35 then f82_11 else (if (ownDg v19) = (0 : Int32) then (2 : Int32) else f82_11)) → OwnGo p e below (T7.setTop (mkF m 99 #[.val (.int p0), .val (.int p1), .val (.int p2), .val (.int p3), .val (.int p4), .val (.int v5), .val (.int v12), .val (.int v19), .val (.int v26), .val (.int v35), .val (.ref b1), .val (.int f99_11), .unset, .unset] [])) RR := by
      intro T7 X7 f99_11 hf99_11
      refine own_iload X7 at_99 (pc' := 101) rfl rfl ?_
      refine own_iconst X7 at_101 (pc' := 102) rfl (v := (1 : Int32)) (by decide) ?_
      have j116_8 : ∀ T8, OwnAt X7 T8 → ∀ (f116_11 : Int32), f116_11 = (if (1 : Int32) < v35 then f99_11 else (if (ownDg v12) = (0 : Int32) then (1 : Int32) else f99_11)) → OwnGo p e below (T8.setTop (mkF m 116 #[.val (.int p0), .val (.int p1), .val (.int p2), .val (.int p3), .val (.int p4), .val (.int v5), .val (.int v12), .val (.int v19), .val (.int v26), .val (.int v35), .val (.ref b1), .val (.int f116_11), .unset, .unset] [])) RR := by
        intro T8 X8 f116_11 hf116_11
        refine own_iload X8 at_116 (pc' := 118) rfl rfl ?_
        have j132_9 : ∀ T9, OwnAt X8 T9 → ∀ (f132_11 : Int32), f132_11 = (if (0 : Int32) < v35 then f116_11 else (if (ownDg v5) = (0 : Int32) then (0 : Int32) else f116_11)) → OwnGo p e below (T9.setTop (mkF m 132 #[.val (.int p0), .val (.int p1), .val (.int p2), .val (.int p3), .val (.int p4), .val (.int v5), .val (.int v12), .val (.int v19), .val (.int v26), .val (.int v35), .val (.ref b1), .val (.int f132_11), .unset, .unset] [])) RR := by
          intro T9 X9 f132_11 hf132_11
          refine own_aload X9 at_132 (pc' := 134) rfl rfl rfl ?_
          refine own_iload X9 at_134 (pc' := 136) rfl rfl ?_
          refine own_callS (argsL := [(.ref b1), (.int v35)]) X9 at_136 (y := (⟨"com/example/outcry/outcry/market/Characters", "digitsFrom", "([CI)I"⟩ : MethodName)) (by decide) (hw _ (List.mem_of_getElem? (i := 6) rfl)) (hw _ (List.mem_of_getElem? (i := 7) rfl)) (hw _ (List.mem_of_getElem? (i := 9) rfl)) (hw _ (List.mem_of_getElem? (i := 8) rfl)) (own_rm2 l Z a0 hw b1 ((v5.toUInt32.toUInt16.toUInt32.toInt32)) ((v12.toUInt32.toUInt16.toUInt32.toInt32)) ((v19.toUInt32.toUInt16.toUInt32.toInt32)) ((v26.toUInt32.toUInt16.toUInt32.toInt32)) v35 h5 n0 Z5 V_b1_5 (by rw [hv35]; exact own_p5 _)) own_pd1 rfl (S := []) rfl (pc' := 139) rfl rfl (W := 0) (Nat.le_of_eq rfl) (by decide) (by decide) (by decide) (by decide) ?_
          intro T10 h10 v10_ X10 q10_
          obtain ⟨rfl, rfl⟩ := q10_
          obtain ⟨r10, hr10⟩ : ∃ z, z = (ownDF (v5.toUInt32.toUInt16.toUInt32.toInt32) (v12.toUInt32.toUInt16.toUInt32.toInt32) (v19.toUInt32.toUInt16.toUInt32.toInt32) (v26.toUInt32.toUInt16.toUInt32.toInt32) v35) := ⟨_, rfl⟩
          show OwnGo p e below (T10.setTop (mkF m 139 #[.val (.int p0), .val (.int p1), .val (.int p2), .val (.int p3), .val (.int p4), .val (.int v5), .val (.int v12), .val (.int v19), .val (.int v26), .val (.int v35), .val (.ref b1), .val (.int f132_11), .unset, .unset] [(.int (ownDF (v5.toUInt32.toUInt16.toUInt32.toInt32) (v12.toUInt32.toUInt16.toUInt32.toInt32) (v19.toUInt32.toUInt16.toUInt32.toInt32) (v26.toUInt32.toUInt16.toUInt32.toInt32) v35))])) RR
          rw [← hr10]
          refine own_istore X10 at_139 (pc' := 141) rfl (l' := #[.val (.int p0), .val (.int p1), .val (.int p2), .val (.int p3), .val (.int p4), .val (.int v5), .val (.int v12), .val (.int v19), .val (.int v26), .val (.int v35), .val (.ref b1), .val (.int f132_11), .val (.int r10), .unset]) rfl ?_
          refine own_aload X10 at_141 (pc' := 143) rfl rfl rfl ?_
          refine own_iconst X10 at_143 (pc' := 144) rfl (v := (0 : Int32)) (by decide) ?_
          refine own_caload X10 at_144 V_b1_5 (by decide) (v := (.int (v5.toUInt32.toUInt16.toUInt32.toInt32))) rfl (pc' := 145) rfl ?_
          refine own_iload X10 at_145 (pc' := 147) rfl rfl ?_
          refine own_icN X10 at_147 (teq ((by rw [hv5]; exact own_nn _ : (v5.toUInt32.toUInt16.toUInt32.toInt32) = v5))).2 (pc' := 150) rfl ?_
          refine own_aload X10 at_150 (pc' := 152) rfl rfl rfl ?_
          refine own_iconst X10 at_152 (pc' := 153) rfl (v := (1 : Int32)) (by decide) ?_
          refine own_caload X10 at_153 V_b1_5 (by decide) (v := (.int (v12.toUInt32.toUInt16.toUInt32.toInt32))) rfl (pc' := 154) rfl ?_
          refine own_iload X10 at_154 (pc' := 156) rfl rfl ?_
          refine own_icN X10 at_156 (teq ((by rw [hv12]; exact own_nn _ : (v12.toUInt32.toUInt16.toUInt32.toInt32) = v12))).2 (pc' := 159) rfl ?_
          refine own_aload X10 at_159 (pc' := 161) rfl rfl rfl ?_
          refine own_iconst X10 at_161 (pc' := 162) rfl (v := (2 : Int32)) (by decide) ?_
          refine own_caload X10 at_162 V_b1_5 (by decide) (v := (.int (v19.toUInt32.toUInt16.toUInt32.toInt32))) rfl (pc' := 163) rfl ?_
          refine own_iload X10 at_163 (pc' := 165) rfl rfl ?_
          refine own_icN X10 at_165 (teq ((by rw [hv19]; exact own_nn _ : (v19.toUInt32.toUInt16.toUInt32.toInt32) = v19))).2 (pc' := 168) rfl ?_
          refine own_aload X10 at_168 (pc' := 170) rfl rfl rfl ?_
          refine own_iconst X10 at_170 (pc' := 171) rfl (v := (3 : Int32)) (by decide) ?_
          refine own_caload X10 at_171 V_b1_5 (by decide) (v := (.int (v26.toUInt32.toUInt16.toUInt32.toInt32))) rfl (pc' := 172) rfl ?_
          refine own_iload X10 at_172 (pc' := 174) rfl rfl ?_
          refine own_icN X10 at_174 (teq ((by rw [hv26]; exact own_nn _ : (v26.toUInt32.toUInt16.toUInt32.toInt32) = v26))).2 (pc' := 177) rfl ?_
          refine own_iconst X10 at_177 (pc' := 178) rfl (v := (1 : Int32)) (by decide) ?_
          refine own_goto X10 at_178 (pc' := 182) (by decide) (by decide) ?_
          refine own_istore X10 at_182 (pc' := 184) rfl (l' := #[.val (.int p0), .val (.int p1), .val (.int p2), .val (.int p3), .val (.int p4), .val (.int v5), .val (.int v12), .val (.int v19), .val (.int v26), .val (.int v35), .val (.ref b1), .val (.int f132_11), .val (.int r10), .val (.int (1 : Int32))]) rfl ?_
          refine own_iload X10 at_184 (pc' := 186) rfl rfl ?_
          refine own_iload X10 at_186 (pc' := 188) rfl rfl ?_
          refine own_icN X10 at_188 (teq ((by rw [hr10, hv5, hv12, hv19, hv26, own_nn, own_nn, own_nn, own_nn, ← hv5, ← hv12, ← hv19, ← hv26]; exact own_fin _ _ _ _ _ _ _ _ _ (by rw [hv35]; exact own_p5 _) hf82_11 hf99_11 hf116_11 hf132_11 : r10 = f132_11))).2 (pc' := 191) rfl ?_
          refine own_iload X10 at_191 (pc' := 193) rfl rfl ?_
          refine own_ifN X10 at_193 (feq ((by decide : ¬ ((1 : Int32) = (0 : Int32))))).1 (pc' := 196) rfl ?_
          refine own_iconst X10 at_196 (pc' := 197) rfl (v := (1 : Int32)) (by decide) ?_
          refine own_goto X10 at_197 (pc' := 201) (by decide) (by decide) ?_
          exact own_retZ X10 at_201 (by decide) rfl (by decide) (by decide)
        by_cases hc118 : (0 : Int32) < v35
        · refine own_ifY X8 at_118 (tlt (hc118)).2.2.1 (pc' := 132) (by decide) (by decide) ?_
          exact j132_9 T8 X8 _ (by rw [if_pos hc118])
        · refine own_ifN X8 at_118 (flt (hc118)).2.2.1 (pc' := 121) rfl ?_
          refine own_iload X8 at_121 (pc' := 123) rfl rfl ?_
          refine own_callS (argsL := [(.int v5)]) X8 at_123 (y := (⟨"com/example/outcry/outcry/market/CharactersDigitsFromPinLaw", "ascii", "(C)Z"⟩ : MethodName)) (by decide) (hw _ (List.mem_of_getElem? (i := 2) rfl)) (hw _ (List.mem_of_getElem? (i := 3) rfl)) (hw _ (List.mem_of_getElem? (i := 5) rfl)) (hw _ (List.mem_of_getElem? (i := 4) rfl)) (own_rm1 l Z a0 hw v5 h5 n0 Z5 ) own_pd0 rfl (S := []) rfl (pc' := 126) rfl rfl (W := 0) (Nat.le_of_eq rfl) (by decide) (by decide) (by decide) (by decide) ?_
          intro T11 h11 v11_ X11 q11_
          obtain ⟨rfl, rfl⟩ := q11_
          show OwnGo p e below (T11.setTop (mkF m 126 #[.val (.int p0), .val (.int p1), .val (.int p2), .val (.int p3), .val (.int p4), .val (.int v5), .val (.int v12), .val (.int v19), .val (.int v26), .val (.int v35), .val (.ref b1), .val (.int f116_11), .unset, .unset] [(.int (ownDg v5))])) RR
          by_cases hc126 : (ownDg v5) = (0 : Int32)
          · refine own_ifN X11 at_126 (teq (hc126)).2 (pc' := 129) rfl ?_
            refine own_iconst X11 at_129 (pc' := 130) rfl (v := (0 : Int32)) (by decide) ?_
            refine own_istore X11 at_130 (pc' := 132) rfl (l' := #[.val (.int p0), .val (.int p1), .val (.int p2), .val (.int p3), .val (.int p4), .val (.int v5), .val (.int v12), .val (.int v19), .val (.int v26), .val (.int v35), .val (.ref b1), .val (.int (0 : Int32)), .unset, .unset]) rfl ?_
            exact j132_9 T11 X11 _ (by rw [if_neg hc118, if_pos hc126])
          · refine own_ifY X11 at_126 (feq (hc126)).2 (pc' := 132) (by decide) (by decide) ?_
            exact j132_9 T11 X11 _ (by rw [if_neg hc118, if_neg hc126])
      by_cases hc102 : (1 : Int32) < v35
      · refine own_icY X7 at_102 (tlt (hc102)).2.2.1 (pc' := 116) (by decide) (by decide) ?_
        exact j116_8 T7 X7 _ (by rw [if_pos hc102])
      · refine own_icN X7 at_102 (flt (hc102)).2.2.1 (pc' := 105) rfl ?_
        refine own_iload X7 at_105 (pc' := 107) rfl rfl ?_
        refine own_callS (argsL := [(.int v12)]) X7 at_107 (y := (⟨"com/example/outcry/outcry/market/CharactersDigitsFromPinLaw", "ascii", "(C)Z"⟩ : MethodName)) (by decide) (hw _ (List.mem_of_getElem? (i := 2) rfl)) (hw _ (List.mem_of_getElem? (i := 3) rfl)) (hw _ (List.mem_of_getElem? (i := 5) rfl)) (hw _ (List.mem_of_getElem? (i := 4) rfl)) (own_rm1 l Z a0 hw v12 h5 n0 Z5 ) own_pd0 rfl (S := []) rfl (pc' := 110) rfl rfl (W := 0) (Nat.le_of_eq rfl) (by decide) (by decide) (by decide) (by decide) ?_
        intro T12 h12 v12_ X12 q12_
        obtain ⟨rfl, rfl⟩ := q12_
        show OwnGo p e below (T12.setTop (mkF m 110 #[.val (.int p0), .val (.int p1), .val (.int p2), .val (.int p3), .val (.int p4), .val (.int v5), .val (.int v12), .val (.int v19), .val (.int v26), .val (.int v35), .val (.ref b1), .val (.int f99_11), .unset, .unset] [(.int (ownDg v12))])) RR
        by_cases hc110 : (ownDg v12) = (0 : Int32)
        · refine own_ifN X12 at_110 (teq (hc110)).2 (pc' := 113) rfl ?_
          refine own_iconst X12 at_113 (pc' := 114) rfl (v := (1 : Int32)) (by decide) ?_
          refine own_istore X12 at_114 (pc' := 116) rfl (l' := #[.val (.int p0), .val (.int p1), .val (.int p2), .val (.int p3), .val (.int p4), .val (.int v5), .val (.int v12), .val (.int v19), .val (.int v26), .val (.int v35), .val (.ref b1), .val (.int (1 : Int32)), .unset, .unset]) rfl ?_
          exact j116_8 T12 X12 _ (by rw [if_neg hc102, if_pos hc110])
        · refine own_ifY X12 at_110 (feq (hc110)).2 (pc' := 116) (by decide) (by decide) ?_
          exact j116_8 T12 X12 _ (by rw [if_neg hc102, if_neg hc110])
    by_cases hc85 : (2 : Int32) < v35
    · refine own_icY X6 at_85 (tlt (hc85)).2.2.1 (pc' := 99) (by decide) (by decide) ?_
      exact j99_7 T6 X6 _ (by rw [if_pos hc85])
    · refine own_icN X6 at_85 (flt (hc85)).2.2.1 (pc' := 88) rfl ?_
      refine own_iload X6 at_88 (pc' := 90) rfl rfl ?_
      refine own_callS (argsL := [(.int v19)]) X6 at_90 (y := (⟨"com/example/outcry/outcry/market/CharactersDigitsFromPinLaw", "ascii", "(C)Z"⟩ : MethodName)) (by decide) (hw _ (List.mem_of_getElem? (i := 2) rfl)) (hw _ (List.mem_of_getElem? (i := 3) rfl)) (hw _ (List.mem_of_getElem? (i := 5) rfl)) (hw _ (List.mem_of_getElem? (i := 4) rfl)) (own_rm1 l Z a0 hw v19 h5 n0 Z5 ) own_pd0 rfl (S := []) rfl (pc' := 93) rfl rfl (W := 0) (Nat.le_of_eq rfl) (by decide) (by decide) (by decide) (by decide) ?_
      intro T13 h13 v13_ X13 q13_
      obtain ⟨rfl, rfl⟩ := q13_
      show OwnGo p e below (T13.setTop (mkF m 93 #[.val (.int p0), .val (.int p1), .val (.int p2), .val (.int p3), .val (.int p4), .val (.int v5), .val (.int v12), .val (.int v19), .val (.int v26), .val (.int v35), .val (.ref b1), .val (.int f82_11), .unset, .unset] [(.int (ownDg v19))])) RR
      by_cases hc93 : (ownDg v19) = (0 : Int32)
      · refine own_ifN X13 at_93 (teq (hc93)).2 (pc' := 96) rfl ?_
        refine own_iconst X13 at_96 (pc' := 97) rfl (v := (2 : Int32)) (by decide) ?_
        refine own_istore X13 at_97 (pc' := 99) rfl (l' := #[.val (.int p0), .val (.int p1), .val (.int p2), .val (.int p3), .val (.int p4), .val (.int v5), .val (.int v12), .val (.int v19), .val (.int v26), .val (.int v35), .val (.ref b1), .val (.int (2 : Int32)), .unset, .unset]) rfl ?_
        exact j99_7 T13 X13 _ (by rw [if_neg hc85, if_pos hc93])
      · refine own_ifY X13 at_93 (feq (hc93)).2 (pc' := 99) (by decide) (by decide) ?_
        exact j99_7 T13 X13 _ (by rw [if_neg hc85, if_neg hc93])
  by_cases hc68 : (3 : Int32) < v35
  · refine own_icY X5 at_68 (tlt (hc68)).2.2.1 (pc' := 82) (by decide) (by decide) ?_
    exact j82_6 T5 X5 _ (by rw [if_pos hc68])
  · refine own_icN X5 at_68 (flt (hc68)).2.2.1 (pc' := 71) rfl ?_
    refine own_iload X5 at_71 (pc' := 73) rfl rfl ?_
    refine own_callS (argsL := [(.int v26)]) X5 at_73 (y := (⟨"com/example/outcry/outcry/market/CharactersDigitsFromPinLaw", "ascii", "(C)Z"⟩ : MethodName)) (by decide) (hw _ (List.mem_of_getElem? (i := 2) rfl)) (hw _ (List.mem_of_getElem? (i := 3) rfl)) (hw _ (List.mem_of_getElem? (i := 5) rfl)) (hw _ (List.mem_of_getElem? (i := 4) rfl)) (own_rm1 l Z a0 hw v26 h5 n0 Z5 ) own_pd0 rfl (S := []) rfl (pc' := 76) rfl rfl (W := 0) (Nat.le_of_eq rfl) (by decide) (by decide) (by decide) (by decide) ?_
    intro T14 h14 v14_ X14 q14_
    obtain ⟨rfl, rfl⟩ := q14_
    show OwnGo p e below (T14.setTop (mkF m 76 #[.val (.int p0), .val (.int p1), .val (.int p2), .val (.int p3), .val (.int p4), .val (.int v5), .val (.int v12), .val (.int v19), .val (.int v26), .val (.int v35), .val (.ref b1), .val (.int (4 : Int32)), .unset, .unset] [(.int (ownDg v26))])) RR
    by_cases hc76 : (ownDg v26) = (0 : Int32)
    · refine own_ifN X14 at_76 (teq (hc76)).2 (pc' := 79) rfl ?_
      refine own_iconst X14 at_79 (pc' := 80) rfl (v := (3 : Int32)) (by decide) ?_
      refine own_istore X14 at_80 (pc' := 82) rfl (l' := #[.val (.int p0), .val (.int p1), .val (.int p2), .val (.int p3), .val (.int p4), .val (.int v5), .val (.int v12), .val (.int v19), .val (.int v26), .val (.int v35), .val (.ref b1), .val (.int (3 : Int32)), .unset, .unset]) rfl ?_
      exact j82_6 T14 X14 _ (by rw [if_neg hc68, if_pos hc76])
    · refine own_ifY X14 at_76 (feq (hc76)).2 (pc' := 82) (by decide) (by decide) ?_
      exact j82_6 T14 X14 _ (by rw [if_neg hc68, if_neg hc76])
set_option maxRecDepth 65536 in
set_option maxHeartbeats 40000000 in
theorem own_comes {Post : Tables → Env → Array Value → State → Outcome → State → Prop} (hpost : ∀ tb e args s v u, (limb_1_1.after args s (.returned v) u = true ∧ limb_1_2.after args s (.returned v) u = true ∧ True) → FrameEnd s (.returned v) u (Jvm.fieldLocs frame_1_writes args s ++ Jvm.arrayLocs frame_1_arrays args s ++ Jvm.staticLocs frame_1_statics s) 16 128 → Post tb e args s (.returned v) u) :
    ArmFor flags0 classFile x code maxLocals ret World_1 tables_1 room_1 Calls_1 rest_1 Pre_1 Post := by
  intro l hfl _ _ p e ha hc hk s m args below hf hA hF happ hP
  obtain ⟨hcalls, hrest, hpre⟩ := hP
  obtain ⟨-, -, -, hnamed, -, -, -, hat⟩ := (Spec.applies_iff hf).mp happ
  obtain ⟨hg, hn⟩ := and_e (Cond.before_iff.mp (show (Jvm.Cond.and given_1 narrow_1).before args s = true from hpre))
  obtain ⟨gc, g0⟩ := and_e hg
  obtain ⟨w0_, g1⟩ := and_e g0
  obtain ⟨w1_, g2⟩ := and_e g1
  obtain ⟨w2_, g3⟩ := and_e g2
  obtain ⟨w3_, g4⟩ := and_e g3
  obtain ⟨z0, z1, z2, z3, z4, rfl⟩ : ∃ z0 z1 z2 z3 z4 : Value, args = #[z0, z1, z2, z3, z4] := by
    have hs : args.size = 5 := by simpa [Cond.value, given_1] using gc
    obtain ⟨L⟩ := args
    match L, hs with
    | [z0, z1, z2, z3, z4], _ => exact ⟨z0, z1, z2, z3, z4, rfl⟩
  have hw := fun d (hd : d ∈ tables_1) => atoms_spec (ws := Jvm.Cond.code x code maxLocals ret :: tables_1) hat d (List.mem_cons_of_mem _ hd)
  obtain ⟨i0, ei0⟩ := is_v w0_
  obtain rfl : z0 = (.int i0) := Option.some.inj ei0
  obtain ⟨i1, ei1⟩ := is_v w1_
  obtain rfl : z1 = (.int i1) := Option.some.inj ei1
  obtain ⟨i2, ei2⟩ := is_v w2_
  obtain rfl : z2 = (.int i2) := Option.some.inj ei2
  obtain ⟨i3, ei3⟩ := is_v w3_
  obtain rfl : z3 = (.int i3) := Option.some.inj ei3
  obtain ⟨i4, ei4⟩ := is_v g4
  obtain rfl : z4 = (.int i4) := Option.some.inj ei4
  obtain ⟨n, o, h1, h2, h3, _, L, rfl, ⟨⟨rfl, -⟩, N⟩, hq⟩ := own_rm0 l s _ hw i0 i1 i2 i3 i4  s.heap s.heap.size (Nat.le_refl _)  tables_1 p e ha hc hk s m _ below hf ((Spec.applies_iff_loose hf).mp happ).1 ⟨rfl, State.Warmed39.refl s, rfl⟩ trivial
  exact ⟨n, _, h1, h2, h3, hpost _ _ _ _ _ _ ⟨Cond.after_iff.mpr rfl, Cond.after_iff.mpr (eq_i res_at (Term.int_eval (1)) rfl), trivial⟩ ⟨hq.1, hq.2.1, (hq.2.2.sift fun y hy => Or.inr (N y hy)).mono (by decide) (by decide)⟩⟩
theorem main_1_1 : Claimed_1_1 := own_comes fun _ _ _ _ _ _ h hF => ⟨h.1, hF⟩
theorem main_1_2 : Claimed_1_2 := own_comes fun _ _ _ _ _ _ h hF => ⟨h.2.1, hF⟩
end Jvm.Pilot.@@N@@
namespace Jvm.Pilot.@@N@@
open Jvm Jvm.ClassFile Sem Op Lib Jvm.Free Jvm.Stand Jvm.Pilot.@@N@@.Jvm.D
/-! MADE BY PROGRAM (witnessworld.py) out of the Statement's table words and the real class files: 11 classes; the members and pool entries that the words name. The judged class is class 1, her method 2. -/
namespace start1
open Jvm.ClassFile
def u (s : String) : CpInfo := .utf8 (stringToUtf16 s)
/-- a pool by its gaps: so many unusable entries, then the entry; so many at the end -/
def gap : Nat → List CpInfo → List CpInfo
  | 0, r => r
  | n + 1, r => .unusable :: gap n r
def poolList (es : List (Nat × CpInfo)) (last : Nat) : List CpInfo := es.foldr (fun e r => gap e.1 (e.2 :: r)) (gap last [])
def pool (es : List (Nat × CpInfo)) (last : Nat) : Array CpInfo := ⟨poolList es last⟩
def fileOf (pool : Array CpInfo) (this : Nat) (attrs : Array Attribute := #[]) (ms : Array MethodInfo := #[]) (fl : Nat := 33) (sup : Nat := 0) (ifs : Array Nat := #[]) (fds : Array FieldInfo := #[]) : ClassFile where
  minorVersion := 0
  majorVersion := 65
  constantPool := pool
  accessFlags := fl
  thisClass := this
  superClass := sup
  interfaces := ifs
  fields := fds
  methods := ms
  attributes := attrs
def plain (name : String) (sup : Option ClassId) : Class where
  name := name
  kind := .ordinary
  loader := none
  accessFlags := 33
  super := sup
  interfaces := #[]
  cf := none
  fields := #[]
  methods := #[]
  instanceTypes := #[]
  staticTypes := #[]
  resolved := #[]
  callSites := []
  init := .initialized
  statics := none
  mirror := none

def pool0 : Array CpInfo := pool [(5, u "<init>"), (0, u "()V"), (1, .class_ 10), (1, u "java/lang/Object")] 113

def k0m0 : Method := { name := "<init>", desc := "()V", sig := { parameters := [], returnType := none }, accessFlags := 1, code := none }
/-- java/lang/Object -/
def k0 : Class := { plain "java/lang/Object" none with
  accessFlags := 33
  interfaces := #[]
  cf := some (fileOf pool0 8 #[] #[{ accessFlags := 1, nameIndex := 5, descriptorIndex := 6, attributes := #[] }] 33 0 #[] #[])
  fields := #[]
  methods := #[k0m0]
  instanceTypes := #[]
  staticTypes := #[]
  resolved := Array.replicate 124 none
  statics := none }

def pool1 : Array CpInfo := pool [(2, .class_ 4), (1, u "java/lang/Object"), (0, u "<init>"), (0, u "()V"), (0, .integer 65535), (0, .methodref 9 10), (0, .class_ 11), (0, .nameAndType 12 13), (0, u "com/example/outcry/outcry/market/CharactersDigitsFromPinLaw"), (0, u "ascii"), (0, u "(C)Z"), (0, .methodref 15 16), (0, .class_ 17), (0, .nameAndType 18 19), (0, u "com/example/outcry/outcry/market/Characters"), (0, u "digitsFrom"), (0, u "([CI)I"), (3, u "law"), (0, u "(IIIII)Z")] 4

def k1m0 : Method := { name := "<init>", desc := "()V", sig := { parameters := [], returnType := none }, accessFlags := 2, code := none }
def k1c1 : Code := { maxStack := 2, maxLocals := 1, code := method_2_code, exceptionTable := #[], attributes := #[] }
def k1m1 : Method := { name := "ascii", desc := "(C)Z", sig := { parameters := [.char], returnType := some .boolean }, accessFlags := 10, code := some k1c1 }
def k1c2 : Code := { maxStack := 4, maxLocals := 14, code := code, exceptionTable := #[], attributes := #[] }
def k1m2 : Method := { name := "law", desc := "(IIIII)Z", sig := { parameters := [.int, .int, .int, .int, .int], returnType := some .boolean }, accessFlags := 9, code := some k1c2 }
/-- com/example/outcry/outcry/market/CharactersDigitsFromPinLaw -/
def k1 : Class := { plain "com/example/outcry/outcry/market/CharactersDigitsFromPinLaw" (some 0) with
  accessFlags := 49
  interfaces := #[]
  cf := some (fileOf pool1 9 #[] #[{ accessFlags := 2, nameIndex := 5, descriptorIndex := 6, attributes := #[] }, { accessFlags := 10, nameIndex := 12, descriptorIndex := 13, attributes := #[] }, { accessFlags := 9, nameIndex := 23, descriptorIndex := 24, attributes := #[] }] 49 2 #[] #[])
  fields := #[]
  methods := #[k1m0, k1m1, k1m2]
  instanceTypes := #[]
  staticTypes := #[]
  resolved := Array.replicate 29 none
  statics := none }

def pool2 : Array CpInfo := pool [(2, .class_ 4), (1, u "java/lang/Object"), (0, u "<init>"), (0, u "()V"), (7, .class_ 16), (1, u "com/example/outcry/outcry/market/Characters"), (0, u "digitsFrom"), (0, u "([CI)I"), (0, .methodref 14 20), (0, .nameAndType 21 22), (0, u "isDigit"), (0, u "(C)Z"), (2, u "LONG_DIGITS"), (0, u "I")] 14

def k2m0 : Method := { name := "<init>", desc := "()V", sig := { parameters := [], returnType := none }, accessFlags := 2, code := none }
def k2c1 : Code := { maxStack := 2, maxLocals := 3, code := prog_13_method_3_code, exceptionTable := #[], attributes := #[] }
def k2m1 : Method := { name := "digitsFrom", desc := "([CI)I", sig := { parameters := [(.array .char), .int], returnType := some .int }, accessFlags := 8, code := some k2c1 }
def k2c2 : Code := { maxStack := 2, maxLocals := 1, code := prog_13_method_6_code, exceptionTable := #[], attributes := #[] }
def k2m2 : Method := { name := "isDigit", desc := "(C)Z", sig := { parameters := [.char], returnType := some .boolean }, accessFlags := 10, code := some k2c2 }
/-- com/example/outcry/outcry/market/Characters -/
def k2 : Class := { plain "com/example/outcry/outcry/market/Characters" (some 0) with
  accessFlags := 48
  interfaces := #[]
  cf := some (fileOf pool2 14 #[] #[{ accessFlags := 2, nameIndex := 5, descriptorIndex := 6, attributes := #[] }, { accessFlags := 8, nameIndex := 17, descriptorIndex := 18, attributes := #[] }, { accessFlags := 10, nameIndex := 21, descriptorIndex := 22, attributes := #[] }] 48 2 #[] #[{ accessFlags := 24, nameIndex := 25, descriptorIndex := 26, attributes := #[] }])
  fields := #[{ name := "LONG_DIGITS", type := .int, accessFlags := 24, slot := 0, constantValue := 0 }]
  methods := #[k2m0, k2m1, k2m2]
  instanceTypes := #[]
  staticTypes := #[.int]
  resolved := Array.replicate 41 none
  statics := none }

def pool3 : Array CpInfo := pool [(1, u "java/lang/Cloneable"), (0, .class_ 1), (0, u "java/lang/Object"), (0, .class_ 3)] 3

/-- java/lang/Cloneable -/
def k3 : Class := { plain "java/lang/Cloneable" (some 0) with
  accessFlags := 1537
  interfaces := #[]
  cf := some (fileOf pool3 2 #[] #[] 1537 4 #[] #[])
  fields := #[]
  methods := #[]
  instanceTypes := #[]
  staticTypes := #[]
  resolved := Array.replicate 8 none
  statics := none }

def pool4 : Array CpInfo := pool [(1, u "java/io/Serializable"), (0, .class_ 1), (0, u "java/lang/Object"), (0, .class_ 3)] 3

/-- java/io/Serializable -/
def k4 : Class := { plain "java/io/Serializable" (some 0) with
  accessFlags := 1537
  interfaces := #[]
  cf := some (fileOf pool4 2 #[] #[] 1537 4 #[] #[])
  fields := #[]
  methods := #[]
  instanceTypes := #[]
  staticTypes := #[]
  resolved := Array.replicate 8 none
  statics := none }

/-- the primitive byte -/
def k5 : Class := { plain "byte" none with kind := .primitive 'B', accessFlags := 0x411 }
/-- [B -/
def k6 : Class := { plain "[B" (some 0) with kind := .array 5 .byte, interfaces := #[3, 4], accessFlags := 1041 }

/-- the primitive char -/
def k7 : Class := { plain "char" none with kind := .primitive 'C', accessFlags := 0x411 }
/-- [C -/
def k8 : Class := { plain "[C" (some 0) with kind := .array 7 .char, interfaces := #[3, 4], accessFlags := 1041 }

/-- the primitive int -/
def k9 : Class := { plain "int" none with kind := .primitive 'I', accessFlags := 0x411 }
/-- [I -/
def k10 : Class := { plain "[I" (some 0) with kind := .array 9 .int, interfaces := #[3, 4], accessFlags := 1041 }

def heap : Heap := #[]
def classes : Array Class := #[k0, k1, k2, k3, k4, k5, k6, k7, k8, k9, k10]
def interned : List (Array UInt16 × Addr) := []
def slotsUsed : Nat := 0
def theMethod : MethodId := ⟨1, 2⟩
def args0 : Array Value := #[.int 5, .int 5, .int 5, .int 5, .int 5]
def aboutOver (below : List Frame) : State where
  vm := { classes := classes, interned := interned.toArray }
  heap := heap
  slotsUsed := slotsUsed
  threads := #[{ frames := .invoking theMethod args0 :: below }]
def below0 : List Frame := [.native { method := ⟨0, 0⟩, args := #[] }]
def about1 : State := aboutOver below0
def p0 : Program := .bare "" "" ""
def e0 : Env := launch0.env 0 0 0
theorem w_frames : about1.frames = Frame.invoking theMethod args0 :: below0 := rfl
set_option maxRecDepth 65536 in
theorem w_args : argsFit about1.vm theMethod args0 = true := by decide +kernel
set_option maxRecDepth 65536 in
theorem w_heap : heapFits about1 = true := by decide +kernel
set_option maxRecDepth 65536 in
theorem w_runnable : about1.curStatus? = some .runnable := by decide +kernel
set_option maxRecDepth 65536 in
theorem w_alone : about1.alone = true := by decide +kernel
set_option maxRecDepth 65536 in
theorem w_named : about1.methodNamed? x = some theMethod := by decide +kernel
set_option maxRecDepth 65536 in
theorem w_hears : about1.hears theMethod below0 = true := by decide +kernel
set_option maxRecDepth 65536 in
theorem w_ripe : about1.ripe theMethod args0 below0 = true := by decide +kernel
theorem w_running : about1.status = .running := rfl
set_option maxRecDepth 65536 in
theorem w_room : about1.hasRoom e0.platform room_1 = true :=
  launch0.hasRoom_least _ room_1 (by decide +kernel) (by decide +kernel) (by decide +kernel) (by decide +kernel) (by decide +kernel) (by decide +kernel)
theorem allAtoms_all (ts : List Jvm.Cond) (a : Array Jvm.Value) (st : Jvm.State) : (allAtoms ts).before a st = ts.all (fun c => c.before a st) := by
  induction ts with
  | nil => rfl
  | cons c t ih =>
    show (Jvm.Cond.and c (allAtoms t)).before a st = _
    rw [Jvm.Cond.before_and, ih, List.all_cons]
def words1 : List Jvm.Cond := Jvm.Cond.code x code maxLocals ret :: tables_1
/-- a 'code' word, met by the world's own term for the bytes: nothing is compared byte by byte -/
theorem code_word {y : MethodName} {bytes : ByteArray} {mx : Nat} {rt : Option FieldType} {a : Array Value} {s : State} {m : MethodId} {meth : Method} {c : Code} (h1 : s.methodNamed? y = some m) (h2 : s.vm.method? m = some meth) (h3 : meth.code = some c) (h4 : c.code = bytes)
    (h5 : (c.maxLocals == mx && c.exceptionTable.isEmpty && decide (c.maxStack ≤ mostOperands) && decide (meth.sig.returnType = rt) && !meth.locks && decide (parseMethodDescriptor y.desc = some meth.sig)) = true) : (Jvm.Cond.code y bytes mx rt).before a s = true := by
  simp only [Bool.and_eq_true, beq_iff_eq, Bool.not_eq_true', decide_eq_true_eq] at h5
  obtain ⟨⟨⟨⟨⟨g1, g2⟩, g3⟩, g4⟩, g5⟩, g6⟩ := h5
  simp [Cond.before, Cond.holds, Cond.value, h1, h2, h3, h4, g1, g2, g3, g4, g5, g6]
def isCode : Jvm.Cond → Bool
  | .code _ _ _ _ => true
  | _ => false
theorem all_split {L : List Jvm.Cond} {P : Jvm.Cond → Bool} (h1 : L.all (fun c => isCode c || P c) = true) (h2 : ∀ c ∈ L.filter isCode, P c = true) : L.all P = true := by
  refine List.all_eq_true.mpr fun c hc => ?_
  have h := List.all_eq_true.mp h1 c hc
  rcases Bool.eq_false_or_eq_true (isCode c) with hi | hi
  · exact h2 c (List.mem_filter.mpr ⟨hc, hi⟩)
  · simpa [hi] using h
set_option maxRecDepth 65536 in
theorem w_c0 : (Jvm.Cond.code x code maxLocals ret).before args0 about1 = true := code_word (m := ⟨1, 2⟩) (meth := k1m2) (c := k1c2) (by decide +kernel) rfl rfl rfl (by decide +kernel)
set_option maxRecDepth 65536 in
theorem w_c1 : (Jvm.Cond.code ({ cls := "com/example/outcry/outcry/market/CharactersDigitsFromPinLaw", name := "ascii", desc := "(C)Z" } : Jvm.MethodName) method_2_code (1 : Nat) (Option.some Jvm.ClassFile.FieldType.boolean)).before args0 about1 = true := code_word (m := ⟨1, 1⟩) (meth := k1m1) (c := k1c1) (by decide +kernel) rfl rfl rfl (by decide +kernel)
set_option maxRecDepth 65536 in
theorem w_c2 : (Jvm.Cond.code ({ cls := "com/example/outcry/outcry/market/Characters", name := "digitsFrom", desc := "([CI)I" } : Jvm.MethodName) prog_13_method_3_code (3 : Nat) (Option.some Jvm.ClassFile.FieldType.int)).before args0 about1 = true := code_word (m := ⟨2, 1⟩) (meth := k2m1) (c := k2c1) (by decide +kernel) rfl rfl rfl (by decide +kernel)
set_option maxRecDepth 65536 in
theorem w_c3 : (Jvm.Cond.code ({ cls := "com/example/outcry/outcry/market/Characters", name := "isDigit", desc := "(C)Z" } : Jvm.MethodName) prog_13_method_6_code (1 : Nat) (Option.some Jvm.ClassFile.FieldType.boolean)).before args0 about1 = true := code_word (m := ⟨2, 2⟩) (meth := k2m2) (c := k2c2) (by decide +kernel) rfl rfl rfl (by decide +kernel)
def codes1 : List Jvm.Cond := [Jvm.Cond.code x code maxLocals ret, Jvm.Cond.code ({ cls := "com/example/outcry/outcry/market/CharactersDigitsFromPinLaw", name := "ascii", desc := "(C)Z" } : Jvm.MethodName) method_2_code (1 : Nat) (Option.some Jvm.ClassFile.FieldType.boolean), Jvm.Cond.code ({ cls := "com/example/outcry/outcry/market/Characters", name := "digitsFrom", desc := "([CI)I" } : Jvm.MethodName) prog_13_method_3_code (3 : Nat) (Option.some Jvm.ClassFile.FieldType.int), Jvm.Cond.code ({ cls := "com/example/outcry/outcry/market/Characters", name := "isDigit", desc := "(C)Z" } : Jvm.MethodName) prog_13_method_6_code (1 : Nat) (Option.some Jvm.ClassFile.FieldType.boolean)]
set_option maxRecDepth 65536 in
theorem codes_eq : words1.filter isCode = codes1 := rfl
theorem w_codes : ∀ c ∈ words1.filter isCode, c.before args0 about1 = true := by
  rw [codes_eq]
  intro c hc
  simp only [codes1, List.mem_cons, List.not_mem_nil, or_false] at hc
  rcases hc with rfl | rfl | rfl | rfl
  · exact w_c0
  · exact w_c1
  · exact w_c2
  · exact w_c3
set_option maxRecDepth 65536 in
theorem w_t1 : words1.all (fun c => isCode c || c.before args0 about1) = true := by decide +kernel
theorem w_tables : (allAtoms (Jvm.Cond.code x code maxLocals ret :: tables_1)).before args0 about1 = true := by
  rw [allAtoms_all]
  show words1.all (fun c => c.before args0 about1) = true
  refine all_split ?_ w_codes
  rw [w_t1]
set_option maxRecDepth 65536 in
theorem w_case : (Jvm.Cond.and given_1 narrow_1).before args0 about1 = true := by decide +kernel
theorem w_applies : (headSpec (Jvm.Cond.code x code maxLocals ret :: tables_1) room_1).applies x e0.platform about1 = true :=
  (Spec.applies_iff w_frames).mpr ⟨w_running, w_runnable, w_alone, w_named, w_hears, w_ripe, w_room, w_tables⟩
theorem atStart : AtStart classFile x code maxLocals ret World_1 tables_1 room_1 Calls_1 rest_1 Pre_1 launch0 p0 e0 about1 theMethod args0 below0 :=
  ⟨lists_1, trivial, launch0.admits_env _ _ _, launch0.least_env, fairChoices_fair.cas, fairChoices_fair.clock, w_frames, w_args, w_heap, w_applies, trivial, trivial, w_case⟩
end start1
theorem witness_1 : WitnessClaimed_1 := ⟨start1.p0, start1.e0, start1.about1, start1.theMethod, start1.args0, start1.below0, start1.atStart⟩
end Jvm.Pilot.@@N@@
