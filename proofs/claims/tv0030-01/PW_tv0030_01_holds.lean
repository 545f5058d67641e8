import PyProof.Rows.All
import Wide.All
import OpenK.AllK
import Wide.FinOn
import KE.KNest
import KE.KSortTup
import PySem.Challenge.RW_tv0030_01
set_option Elab.async false
set_option linter.unusedVariables false
section
open PySem PySem.W PyProof.Rows
set_option Elab.async false
namespace Mine
set_option maxRecDepth 100000 in
set_option maxHeartbeats 8000000 in
open_top hd for PySem.Challenge.rw_tv0030_01
end Mine
end

section
open PySem PySem.Spec PySem.Calls PySem.W PyProof.Rows
set_option Elab.async false
namespace Mine
theorem lt8 {a : Nat} (h : a < 8) : a = 0 ∨ a = 1 ∨ a = 2 ∨ a = 3 ∨ a = 4 ∨ a = 5 ∨ a = 6 ∨ a = 7 := by omega
theorem lt7 {a : Nat} (h1 : 1 ≤ a) (h : a < 8) : a = 1 ∨ a = 2 ∨ a = 3 ∨ a = 4 ∨ a = 5 ∨ a = 6 ∨ a = 7 := by omega
theorem lt12 {a : Nat} (h : a < 12) : a = 0 ∨ a = 1 ∨ a = 2 ∨ a = 3 ∨ a = 4 ∨ a = 5 ∨ a = 6 ∨ a = 7 ∨ a = 8 ∨ a = 9 ∨ a = 10 ∨ a = 11 := by omega
/-! ## no run lets the token count fall -/
theorem runs_toks {M : Model} {Γ : PySem.Ctx} {p : Pos} {t : Sem PySem.Fin} {fs : List Frame} {s s' : Shared} {e : End} (h : Runs M Γ p t fs s e s') : s.toks ≤ s'.toks := by
  induction h with
  | done | raise | yield => exact Nat.le_refl _
  | again _ _ ih | rule _ ih | «at» _ ih | load _ _ ih | update _ _ ih | loadIfAlive _ ih | point _ ih | alloc _ ih | ask _ ih | choose _ _ ih | os _ ih | handled _ ih | genState _ _ ih | stack _ ih | thread _ ih | newGen _ ih | callSusp _ ih
  | resumeJustStarted _ _ _ ih | resumeThrowFresh _ _ ih | resumeRunning _ _ ih | resumeFinished _ _ ih | segSuspOut _ _ ih => exact ih
  | fresh _ ih => exact Nat.le_of_succ_le ih
  | call _ _ ih1 ih2 | resumeFresh _ _ _ _ ih1 ih2 | resumeSuspended _ _ _ _ ih1 ih2 | segRet _ _ ih1 ih2 | segGen _ _ ih1 ih2 | segSuspGen _ _ _ _ ih1 ih2 => exact Nat.le_trans ih1 ih2
theorem wakes_toks {M : Model} {Γ : PySem.Ctx} {p : Pos} {g : Nat} {r : Resume} {s s' : Shared} {res : GenResult} (h : Wakes M Γ p g r s res s') : s.toks ≤ s'.toks := by
  unfold Wakes at h
  split at h
  · exact h.elim
  · split at h
    · obtain ⟨e₁, s₁, hr, _, _, rfl⟩ := h
      have := runs_toks hr; exact this
    · obtain ⟨_, rfl⟩ := h; exact Nat.le_refl _
    · obtain ⟨_, rfl⟩ := h; exact Nat.le_refl _
  · obtain ⟨e₁, s₁, hr, _, _, rfl⟩ := h
    have := runs_toks hr; exact this
  · obtain ⟨_, rfl⟩ := h; exact Nat.le_refl _
  · obtain ⟨_, rfl⟩ := h; exact Nat.le_refl _
theorem wp_toks {α : Type} {M : Model} {Γ : PySem.Ctx} {Q : α → Pos → Shared → Prop} {E : Value → Pos → Shared → Prop} {n : Nat} (t : Sem α) : ∀ (p : Pos) (s : Shared), n ≤ s.toks →
    Sem.wp M Γ t (fun a p' s' => n ≤ s'.toks → Q a p' s') (fun e p' s' => n ≤ s'.toks → E e p' s') p s → Sem.wp M Γ t Q E p s := by
  induction t with
  | pure x => exact fun p s hn h => h hn
  | raise v => exact fun p s hn h => h hn
  | unsupported | finish | yield | fork | await | register => exact fun _ _ _ h => h
  | rule _ k ih | «at» _ k ih | alloc _ k ih | loadIfAlive _ k ih | point _ k ih | ask k ih | os _ _ k ih | handled _ k ih | newGen _ k ih | stack k ih | thread k ih => exact fun p s hn h => ih _ _ _ hn h
  | fresh k ih => exact fun p s hn h => ih _ _ _ (Nat.le_succ_of_le hn) h
  | load a _ k ih | genState a k ih => exact fun p s hn ⟨o, ho, h⟩ => ⟨o, ho, ih _ _ _ hn h⟩
  | update a _ f k ih | choose _ _ k ih => exact fun p s hn ⟨ha, h⟩ => ⟨ha, ih _ _ _ hn h⟩
  | call c h g l k ih => exact fun p s hn ⟨r, s', hr, h⟩ => ⟨r, s', hr, ih _ _ _ (Nat.le_trans hn (runs_toks hr)) h⟩
  | resume g r l k ih => exact fun p s hn ⟨res, s', hw, h⟩ => ⟨res, s', hw, ih _ _ _ (Nat.le_trans hn (wakes_toks hw)) h⟩
section
variable {α β : Type} {M : Model} {A : Around} {E : Value → Shared → Prop} {s : Shared}
theorem wpAny_up {t : Sem α} {Q : α → Shared → Prop} (h : wpAny M A t (fun a s' => s.toks ≤ s'.toks → Q a s') (fun e s' => s.toks ≤ s'.toks → E e s') s) : wpAny M A t Q E s :=
  fun Γ p hΓ => wp_toks t p s (Nat.le_refl _) (h Γ p hΓ)
theorem wpAny_up2 {t : Sem α} {f : α → Sem β} {Q : β → Shared → Prop}
    (h : wpAny M A t (fun a s₁ => wpAny M A (f a) (fun b s₂ => s.toks ≤ s₂.toks → Q b s₂) (fun e s₂ => s.toks ≤ s₂.toks → E e s₂) s₁) (fun e s₁ => s.toks ≤ s₁.toks → E e s₁) s) :
    wpAny M A t (fun a s₁ => wpAny M A (f a) Q E s₁) E s :=
  wpAny_up (wpAny_mono h (fun _ s₁ h₁ hup => wpAny_up (wpAny_mono h₁ (fun _ s₂ h₂ hup₂ => h₂ (Nat.le_trans hup hup₂)) fun _ _ h₂ hup₂ => h₂ (Nat.le_trans hup hup₂))) fun _ _ h => h)
theorem execs_up {st : Stmt} {rest : List Stmt} {env : Env} {Q : Flow → Shared → Prop}
    (h : wpAny M A (exec st env) (fun f s₁ => s.toks ≤ s₁.toks → match f with | .next => wpAny M A (execs rest env) Q E s₁ | f => Q f s₁) E s) : wpAny M A (execs (st :: rest) env) Q E s := by
  refine wpAny_execs_cons (wpAny_up (wpAny_mono h (fun f s₁ h₁ => ?_) fun _ _ h _ => h))
  exact h₁
end
end Mine
end

section
open PySem PySem.Spec PySem.Calls PySem.W PyProof.Rows
set_option Elab.async false
namespace Mine

/-! ## what a run may do to the heap -/
abbrev tobj (ps : Array Value) : Obj := { cls := .none, data := .fields ps }
def isT (o : Obj) : Prop := ∃ ps, o = tobj ps
/-- what a table grows by: it is the one of covariance's code -/
def Mr (b : Addr) (ps : Array Value) : Type := { m : Array Value // (TriplesOk ps.toList → TriplesOk (ps ++ m).toList) ∧ b = (65 : Addr) }
def Kp (h h' : Heap) : Prop := ∀ b o, h.get? b = some o → h'.get? b = some o ∨ ∃ ps, ∃ more : Mr b ps, o = tobj ps ∧ h'.get? b = some (tobj (ps ++ more.1))
theorem Kp.refl (h : Heap) : Kp h h := fun _ _ e => .inl e
theorem Kp.of {h h' : Heap} (k : ∀ b o, h.get? b = some o → h'.get? b = some o) : Kp h h' := fun b o e => .inl (k b o e)
theorem Kp.trans {a b c : Heap} (x : Kp a b) (y : Kp b c) : Kp a c := by
  intro d o e
  rcases x d o e with e1 | ⟨ps, more, rfl, e1⟩
  · exact y d o e1
  · rcases y d _ e1 with e2 | ⟨ps', more', e3, e2⟩
    · exact .inr ⟨ps, more, rfl, e2⟩
    · have : ps ++ more.1 = ps' := by injection e3 with _ _ h3 _; injection h3
      subst this
      exact .inr ⟨ps, ⟨more.1 ++ more'.1, fun h => by rw [← Array.append_assoc]; exact more'.2.1 (more.2.1 h), more.2.2⟩, rfl, e2.trans (congrArg (fun z => some (tobj z)) (Array.append_assoc ..))⟩
theorem Kp.get {h h' : Heap} (x : Kp h h') {b : Addr} {o : Obj} (e : h.get? b = some o) (ho : ¬ isT o) : h'.get? b = some o := by
  rcases x b o e with e1 | ⟨ps, more, rfl, _⟩
  · exact e1
  · exact absurd ⟨ps, rfl⟩ ho
theorem Kp.live {h h' : Heap} (x : Kp h h') {b : Addr} {o : Obj} (e : h.get? b = some o) : ∃ o', h'.get? b = some o' := by
  rcases x b o e with e1 | ⟨ps, more, rfl, e1⟩
  · exact ⟨_, e1⟩
  · exact ⟨_, e1⟩
theorem not_isT_dict {o : Obj} {es n} (h : o.data = .dict es n) : ¬ isT o := by rintro ⟨ps, rfl⟩; cases h
theorem not_isT_cell {o : Obj} {v} (h : o.data = .cell v) : ¬ isT o := by rintro ⟨ps, rfl⟩; cases h
theorem not_isT_seq {o : Obj} {v n} (h : o.data = .seq v n) : ¬ isT o := by rintro ⟨ps, rfl⟩; cases h
theorem not_isT_func {o : Obj} {v} (h : o.data = .func v) : ¬ isT o := by rintro ⟨ps, rfl⟩; cases h
theorem not_isT_cls {o : Obj} {x} (h : o.cls = .type x) : ¬ isT o := by rintro ⟨ps, rfl⟩; cases h
theorem Kp.ns {h h' : Heap} (x : Kp h h') {a : Addr} {m} (n : h.Ns a m) : h'.Ns a m := by
  obtain ⟨o, es, ep, ho, hd, r⟩ := n
  exact ⟨o, es, ep, x.get ho (not_isT_dict hd), hd, r⟩
theorem Kp.cell {h h' : Heap} (x : Kp h h') {a : Addr} {v} (n : h.IsCell a v) : h'.IsCell a v := by
  obtain ⟨o, ho, hd⟩ := n
  exact ⟨o, x.get ho (not_isT_cell hd), hd⟩
theorem Kp.nolimit {h h' : Heap} (x : Kp h h') (n : h.NoLimit) : h'.NoLimit := by
  obtain ⟨mc, a, b⟩ := n
  exact ⟨mc, x.ns a, b⟩
theorem Kp.list {h h' : Heap} (x : Kp h h') {a : Addr} {v} (n : h.PlainList a v) : h'.PlainList a v := by
  obtain ⟨k, e⟩ := n
  exact ⟨k, x.get e (not_isT_cls rfl)⟩
theorem Kp.push (h : Heap) (o : Obj) : Kp h (h.push o) := .of fun _ _ e => Heap.get?_push_of_some _ e

/-- only heap, generators, tokens have moved -/
def Sm (s s' : Shared) : Prop := (∃ h' g' tk, s' = { s with heap := h', gens := g', toks := tk }) ∧ (AllBare s.gens → AllBare s'.gens)
theorem Sm.refl (s : Shared) : Sm s s := ⟨⟨_, _, _, rfl⟩, id⟩
theorem Sm.trans {a b c : Shared} (x : Sm a b) (y : Sm b c) : Sm a c := by
  obtain ⟨⟨h, g, t, rfl⟩, x2⟩ := x
  obtain ⟨⟨h', g', t', rfl⟩, y2⟩ := y
  exact ⟨⟨h', g', t', rfl⟩, fun z => y2 (x2 z)⟩
theorem Sm.heap (s : Shared) (h : Heap) (t : Nat) : Sm s { s with heap := h, toks := t } := ⟨⟨_, _, _, rfl⟩, id⟩
theorem Sm.heap1 (s : Shared) (h : Heap) : Sm s { s with heap := h } := ⟨⟨_, _, _, rfl⟩, id⟩
theorem Sm.tok (s : Shared) (t : Nat) : Sm s { s with toks := t } := ⟨⟨_, _, _, rfl⟩, id⟩
theorem Sm.os {s s' : Shared} (x : Sm s s') : s'.os = s.os := by obtain ⟨⟨h, g, t, rfl⟩, _⟩ := x; rfl

structure Gr (s s' : Shared) : Prop where
  sm : Sm s s'
  kp : Kp s.heap s'.heap
theorem Gr.refl (s : Shared) : Gr s s := ⟨.refl s, .refl _⟩
theorem Gr.trans {a b c : Shared} (x : Gr a b) (y : Gr b c) : Gr a c := ⟨x.sm.trans y.sm, x.kp.trans y.kp⟩
theorem Gr.tok (s : Shared) (t : Nat) : Gr s { s with toks := t } := ⟨.tok s t, .refl _⟩
theorem Gr.push (s : Shared) (o : Obj) : Gr s { s with heap := s.heap.push o } := ⟨.heap1 s _, .push _ _⟩
theorem Gr.keep {s : Shared} {h : Heap} {t : Nat} (k : ∀ b o, s.heap.get? b = some o → h.get? b = some o) : Gr s { s with heap := h, toks := t } := ⟨.heap s _ _, .of k⟩
theorem Gr.keep1 {s : Shared} {h : Heap} (k : ∀ b o, s.heap.get? b = some o → h.get? b = some o) : Gr s { s with heap := h } := ⟨.heap1 s _, .of k⟩
theorem Gr.keeps {s s' : Shared} (x : Keeps s s') : Gr s s' := by obtain ⟨h, t, rfl, k⟩ := x; exact .keep k

/-! ## the world: the text's own objects -/
structure Wd (K : Frag) (mg mb : Str → Option Value) (h : Heap) : Prop where
  k : K.In h
  nt : ∀ a o, K.lookup a = some o → ¬ isT o
  g : h.Ns mainGlobals mg
  b : h.Ns builtinsNs mb
  nl : h.NoLimit
  bb : ∀ x : Str, x ≠ "__name__" → mb x = bootBuiltins x
theorem Wd.kp {K : Frag} {mg mb} {h h' : Heap} (x : Wd K mg mb h) (k : Kp h h') : Wd K mg mb h' :=
  ⟨fun a o e => k.get (x.k a o e) (x.nt a o e), x.nt, k.ns x.g, k.ns x.b, k.nolimit x.nl, x.bb⟩

/-! ## a frame -/
abbrev Mp := Str → Option Value
abbrev up (m : Mp) (x : Str) (v : Value) : Mp := fun y => if y = x then some v else m y
structure Inn (h₀ : Heap) (L : Addr) (oc : List (Str × Addr)) (m cm : Mp) (led' : List (Addr × Obj)) (h : Heap) : Prop where
  ns : h.Ns L m
  keep : Kp h₀ h
  above : ∀ o, h₀.get? L ≠ some o
  cell : ∀ q ∈ oc, h.IsCell q.2 (cm q.1)
  cnew : ∀ q ∈ oc, q.2 ≠ L ∧ ∀ o, h₀.get? q.2 ≠ some o
  apart : oc.Pairwise (fun x y => x.2 ≠ y.2)
  names : oc.Pairwise (fun x y => x.1 ≠ y.1)
  led : ∀ p ∈ led', h.get? p.1 = some p.2 ∧ ¬ isT p.2 ∧ p.1 ≠ L ∧ (∀ q ∈ oc, q.2 ≠ p.1) ∧ ∀ o, h₀.get? p.1 ≠ some o
  uniq : List.Pairwise (fun p q => p.1 ≠ q.1) led'
theorem pair_unique {α β : Type} : ∀ {l : List (α × β)}, l.Pairwise (fun x y => x.1 ≠ y.1) → ∀ {p q : α × β}, p ∈ l → q ∈ l → p.1 = q.1 → p = q
  | [], _, _, _, hp, _, _ => nomatch hp
  | x :: l, hn, p, q, hp, hq, e => by
    obtain ⟨h1, h2⟩ := List.pairwise_cons.mp hn
    rcases List.mem_cons.mp hp with e1 | hp' <;> rcases List.mem_cons.mp hq with e2 | hq'
    · rw [e1, e2]
    · rw [e1] at e; exact absurd e (h1 _ hq')
    · rw [e2] at e; exact absurd e.symm (h1 _ hp')
    · exact pair_unique h2 hp' hq' e
section
variable {h₀ h h' : Heap} {L : Addr} {oc : List (Str × Addr)} {m m' cm : Mp} {led : List (Addr × Obj)}
theorem Inn.kp (x : Inn h₀ L oc m cm led h) (k : Kp h h') : Inn h₀ L oc m cm led h' :=
  ⟨k.ns x.ns, x.keep.trans k, x.above, fun q e => k.cell (x.cell q e), x.cnew, x.apart, x.names, fun p hp => ⟨k.get (x.led p hp).1 (x.led p hp).2.1, (x.led p hp).2⟩, x.uniq⟩
theorem Inn.setL (x : Inn h₀ L oc m cm led h) (hn : h'.Ns L m') (hs : Heap.SameBut L h h') : Inn h₀ L oc m' cm led h' := by
  refine ⟨hn, fun b o e => ?_, x.above, fun q e => (x.cell q e).sameBut hs (x.cnew _ e).1, x.cnew, x.apart, x.names, fun p hp => ⟨(hs.2 _ (x.led p hp).2.2.1).trans (x.led p hp).1, (x.led p hp).2⟩, x.uniq⟩
  have ne : b ≠ L := by rintro rfl; exact x.above o e
  rw [hs.2 b ne]
  exact x.keep b o e
theorem Inn.setC (x : Inn h₀ L oc m cm led h) {n : Str} {c : Addr} {v : Value} (hm : (n, c) ∈ oc) (hn : h'.IsCell c (some v)) (hs : Heap.SameBut c h h') : Inn h₀ L oc m (up cm n v) led h' := by
  refine ⟨x.ns.sameBut hs (Ne.symm (x.cnew _ hm).1), fun b o e => ?_, x.above, fun q hq => ?_, x.cnew, x.apart, x.names, fun p hp => ⟨(hs.2 _ (Ne.symm ((x.led p hp).2.2.2.1 _ hm))).trans (x.led p hp).1, (x.led p hp).2⟩, x.uniq⟩
  · have ne : b ≠ c := by rintro rfl; exact (x.cnew _ hm).2 o e
    rw [hs.2 b ne]
    exact x.keep b o e
  · by_cases hkn : q.1 = n
    · have : q = (n, c) := pair_unique x.names hq hm hkn
      subst this
      simp only [up, if_pos]
      exact hn
    · simp only [up, if_neg hkn]
      exact (x.cell q hq).sameBut hs fun e => hkn (name_of_addr x.apart (c := c) (by rw [← e]; exact hq) hm)
theorem Inn.new (x : Inn h₀ L oc m cm led h) (k : Kp h h') {a : Addr} {o : Obj} (ha : ∀ o', h.get? a ≠ some o') (e : h'.get? a = some o) (ho : ¬ isT o) : Inn h₀ L oc m cm ((a, o) :: led) h' := by
  have y := x.kp k
  refine ⟨y.ns, y.keep, y.above, y.cell, y.cnew, y.apart, y.names, fun p hp => ?_, List.pairwise_cons.mpr ⟨fun q hq => ?_, y.uniq⟩⟩
  · rcases List.mem_cons.mp hp with rfl | hp
    · refine ⟨e, ho, ?_, ?_, ?_⟩
      · rintro rfl
        obtain ⟨oL, _, _, hL, _⟩ := x.ns
        exact ha _ hL
      · rintro q hq rfl
        obtain ⟨o', ho', _⟩ := x.cell q hq
        exact ha _ ho'
      · intro o' e'
        rcases x.keep _ _ e' with e1 | ⟨_, _, _, e1⟩ <;> exact ha _ e1
    · exact y.led p hp
  · rintro rfl
    exact ha _ (x.led q hq).1
theorem Inn.drop (x : Inn h₀ L oc m cm led h) {led' : List (Addr × Obj)} (hs : List.Sublist led' led) : Inn h₀ L oc m cm led' h :=
  ⟨x.ns, x.keep, x.above, x.cell, x.cnew, x.apart, x.names, fun p hp => x.led p (hs.subset hp), x.uniq.sublist hs⟩
theorem Inn.set {l1 l2 : List (Addr × Obj)} {a : Addr} {o o' : Obj} (x : Inn h₀ L oc m cm (l1 ++ (a, o) :: l2) h) (hk : ∀ b ob, b ≠ a → h.get? b = some ob → h'.get? b = some ob) (e : h'.get? a = some o') (ho : ¬ isT o') :
    Inn h₀ L oc m cm (l1 ++ (a, o') :: l2) h' := by
  have z := x.led (a, o) (List.mem_append_right _ (.head _))
  have u := x.uniq
  rw [List.pairwise_append] at u
  obtain ⟨u1, u2, u3⟩ := u
  obtain ⟨u4, u5⟩ := List.pairwise_cons.mp u2
  refine ⟨x.ns.at' fun ob eb => hk L ob (Ne.symm z.2.2.1) eb, fun b ob eb => ?_, x.above, fun q hq => ?_, x.cnew, x.apart, x.names, fun p hp => ?_, ?_⟩
  · have ne : b ≠ a := by rintro rfl; exact z.2.2.2.2 ob eb
    rcases x.keep b ob eb with e1 | ⟨ps, more, rfl, e1⟩
    · exact .inl (hk b _ ne e1)
    · exact .inr ⟨ps, more, rfl, hk b _ ne e1⟩
  · obtain ⟨ob, hob, hd⟩ := x.cell q hq
    exact ⟨ob, hk _ ob (z.2.2.2.1 q hq) hob, hd⟩
  · rcases List.mem_append.mp hp with hp | hp
    · have y := x.led p (List.mem_append_left _ hp)
      exact ⟨hk _ _ (u3 p hp _ (.head _)) y.1, y.2⟩
    · rcases List.mem_cons.mp hp with rfl | hp
      · exact ⟨e, ho, z.2.2⟩
      · have y := x.led p (List.mem_append_right _ (.tail _ hp))
        exact ⟨hk _ _ (Ne.symm (u4 p hp)) y.1, y.2⟩
  · rw [List.pairwise_append]
    exact ⟨u1, List.pairwise_cons.mpr ⟨fun q hq => u4 q hq, u5⟩, fun p hp q hq => by
      rcases List.mem_cons.mp hq with rfl | hq
      · exact u3 p hp (a, o) (.head _)
      · exact u3 p hp q (.tail _ hq)⟩
theorem Inn.get (x : Inn h₀ L oc m cm led h) {a : Addr} {o : Obj} (hm : (a, o) ∈ led) : h.get? a = some o := (x.led _ hm).1
end

/-! ## names -/
section
variable {M : Model} {A : Around} {E : Value → Shared → Prop} {s : Shared} {K : Frag} {mg mb : Mp} {env : Env} {x : Str} {pos : Pos} {v : Value} {Q : Value → Shared → Prop}
  {h₀ : Heap} {L c : Addr} {oc : List (Str × Addr)} {m cm : Mp} {led : List (Addr × Obj)}
theorem nm_K (W : Wd K mg mb s.heap) (e : nsIn K mainGlobals x = some (some v)) (h : Q v s) (hg : env.globals = mainGlobals := by rfl)
    (hk : env.scope.kind = .function := by rfl) (hx : env.kindOf x = some .globalImplicit := by rfl) (hd : (x == ("__debug__" : Str)) = false := by decide) : wpAny M A (eval (.Name x pos) env) Q E s :=
  Name_function_global hk hx (loadGlobal_global (hg ▸ W.g) (mg_of W.k W.g e) h) hd
theorem nm_B (W : Wd K mg mb s.heap) (e : nsIn K mainGlobals x = some none) (hv : bootBuiltins x = some v) (hn : x ≠ "__name__") (h : Q v s) (hg : env.globals = mainGlobals := by rfl) (hb : env.builtins = builtinsNs := by rfl)
    (hk : env.scope.kind = .function := by rfl) (hx : env.kindOf x = some .globalImplicit := by rfl) (hd : (x == ("__debug__" : Str)) = false := by decide) : wpAny M A (eval (.Name x pos) env) Q E s :=
  Name_function_global hk hx (loadGlobal_builtin (hg ▸ W.g) (mg_none_of W.k W.g e) (hb ▸ W.b) ((W.bb x hn).trans hv) h) hd
theorem nm_L (I : s.heap.Ns env.locals m) (hv : m x = some v) (h : Q v s)
    (hk : env.scope.kind = .function := by rfl) (hx : env.kindOf x = some .local := by rfl) (hd : (x == ("__debug__" : Str)) = false := by decide) : wpAny M A (eval (.Name x pos) env) Q E s :=
  wpAny_Name (wpAny_loadName_local hk hx I hv h) hd
theorem nm_C (I : s.heap.IsCell c (some v)) (hc : env.cells.lookup x = some c) (h : Q v s)
    (hk : env.scope.kind = .function := by rfl) (hx : env.kindOf x = some .cell := by rfl) (hd : (x == ("__debug__" : Str)) = false := by decide) : wpAny M A (eval (.Name x pos) env) Q E s :=
  wpAny_Name (wpAny_loadName_cell hk hx hc I h) hd
theorem nm_F (I : s.heap.IsCell c (some v)) (hc : env.cells.lookup x = some c) (h : Q v s)
    (hk : env.scope.kind = .function := by rfl) (hx : env.kindOf x = some .free := by rfl) (hd : (x == ("__debug__" : Str)) = false := by decide) (hn : (x == ("__classdict__" : Str)) = false := by decide) : wpAny M A (eval (.Name x pos) env) Q E s :=
  wpAny_Name (wpAny_loadName_free hk hx hc I h hn) hd
end
section
variable {M : Model} {A : Around} {E : Value → Shared → Prop} {s : Shared} {env : Env} {x : Str} {v : Value} {Q : Unit → Shared → Prop} {h₀ : Heap} {c : Addr} {oc : List (Str × Addr)} {m cm : Mp} {led : List (Addr × Obj)}
theorem st_L (I : Inn h₀ env.locals oc m cm led s.heap)
    (h : ∀ h' t, Inn h₀ env.locals oc (up m x v) cm led h' → Heap.SameBut env.locals s.heap h' → Q () { s with heap := h', toks := t })
    (hk : env.scope.kind = .function := by rfl) (hx : env.kindOf x = some .local := by rfl) : wpAny M A (storeName env x v) Q E s :=
  wpAny_storeName_local hx I.ns (fun h' hn hs => h h' _ (I.setL hn hs) hs) (by rw [hk]; rfl)
theorem st_C (I : Inn h₀ env.locals oc m cm led s.heap) (hm : (x, c) ∈ oc) (hc : env.cells.lookup x = some c)
    (h : ∀ h' t, Inn h₀ env.locals oc m (up cm x v) led h' → Heap.SameBut c s.heap h' → Q () { s with heap := h', toks := t })
    (hk : env.scope.kind = .function := by rfl) (hx : env.kindOf x = some .cell := by rfl) : wpAny M A (storeName env x v) Q E s :=
  wpAny_storeName_cell hk hx hc (I.cell _ hm) (fun h' hn hs => h h' s.toks (I.setC hm hn hs) hs)
end

/-! ## a call of a def -/
theorem cells_names {names : List (Str × NameKind)} (h : ((cellsFrom 0 names []).map (·.1)).Nodup) (n : Nat) : (cellsFrom n names []).Pairwise (fun x y => x.1 ≠ y.1) := by
  have e := cellsFrom_names names n 0 [] [] rfl
  rw [← e] at h
  exact List.pairwise_map.mp h
section
variable {prog : Program} {w : World} {A : Around} {E : Value → Shared → Prop} {s : Shared} {K : Frag} {mg mb : Mp} {Q : Value → Shared → Prop}
theorem call_fn {f : Addr} {oc : Value} {od : Option Addr} {osl : Array (Option Value)} {fd : FuncData} {body : List Stmt} {vals : List Value} {binds : List (Str × Value)}
    (W : Wd K mg mb s.heap) (ho : K.lookup f = some ⟨oc, od, .func fd, osl⟩) (hroom : A.depth < recursionLimit) (hcd : codeIn K fd.code fd.qualname = true) (hbody : fd.body = .stmts body) (hclo : fd.closure = [])
    (hbind : BindsTo s fd ⟨vals, []⟩ binds)
    (hkind : ∀ n, ∀ x ∈ binds, fd.scope.names.lookup x.1 = some .local ∨ (fd.scope.names.lookup x.1 = some .cell ∧ ((cellsFrom n fd.scope.names []).lookup x.1).isSome = true))
    (hnd : ((cellsFrom 0 fd.scope.names []).map (·.1)).Nodup)
    (h : ∀ L s₁, Inn s.heap L (cellsFrom (L + 1) fd.scope.names []) (bindL (callEnvC fd L f).kindOf binds fun _ => none) (bindC (callEnvC fd L f).kindOf binds fun _ => none) [] s₁.heap → Gr s s₁ → s.toks ≤ s₁.toks →
      wpAny (model prog w) (A.deeper (callEnvC fd L f)) (execs body (callEnvC fd L f)) (fun fl s' => Q (match fl with | .ret v => v | _ => .none) s') (fun _ _ => False) s₁)
    (hco : fd.scope.isCoroutine = false := by rfl) (hgen : fd.scope.isGenerator = false := by rfl) (hk : fd.scope.kind = .function := by rfl) :
    wpAny (model prog w) A (call (.ref f) vals) Q E s := by
  refine wpAny_call (codeAny_call_function hroom (W.k _ _ ho) rfl hco hgen hbody (codeRec_of W.k hcd) (hbind _ _ _ _ ?_))
  rw [hclo]
  refine wpAny_up (wpAny_newFunctionEnv_cells hk (hkind _) fun env he s' x hup => ?_)
  subst he
  have hk' := x.toInCall.keep
  refine ⟨W.nl.keeps hk', codeAny_func ?_⟩
  obtain ⟨h₁, tk, rfl, _⟩ := x.done
  refine wpAny_mono (h s.heap.objs.size _ ⟨x.toInCall.ns, .of hk', fun o e => absurd (Heap.lt_size e) (Nat.lt_irrefl _), fun q hq => ?_, fun q hq => ⟨Nat.ne_of_gt (x.above q.1 q.2 hq), fun o e => ?_⟩, x.apart, cells_names hnd _, (fun _ hp => nomatch hp), .nil⟩ (.keep hk') hup) (fun fl s' q => ?_) fun _ _ z => z.elim
  · refine x.cell q.1 q.2 (lookup_of_mem_nodup (by show ((cellsFrom (s.heap.objs.size + 1) fd.scope.names []).map (·.1)).Nodup; rw [cellsFrom_names fd.scope.names _ 0 [] [] rfl]; exact hnd) hq)
  · have := x.above q.1 q.2 hq
    exact absurd (Heap.lt_size e) (Nat.not_lt.mpr (Nat.le_of_lt this))
  · cases fl <;> exact q
end
end Mine
end

section
open PySem PySem.Spec PySem.Calls PySem.W PyProof.Rows
set_option Elab.async false
namespace Mine
section
variable {prog : Program} {w : World} {A : Around} {R : Result → Shared → Prop}

theorem comp_loop0 {elt target iter : Expr} {ifs : List Expr} {scope : Scope} {pos : Pos} {it acc : Value} {env : Env} (I : Nat → Shared → Prop)
    (turn : ∀ n s, I n s → wpAny (model prog w) A (pyNext it) (fun r s₁ => match r with
      | none => R (.ok .next) s₁
      | some v => wpAny (model prog w) A (letOwnedTupleGo target it v) (fun _ s₁ => wpAny (model prog w) A (assign target env v) (fun _ s₂ =>
          wpAny (model prog w) A (forIn ifs true fun c r => if r = true then do let ok ← isTrue c env (eval c env); pure (ForInStep.yield ok) else pure (ForInStep.yield r)) (fun ok s₃ =>
            if ok = true then wpAny (model prog w) A (eval elt env) (fun x s₄ =>
              wpAny (model prog w) A (call (.builtin "list.append") [acc, x]) (fun _ s₅ => ∃ m, m < n ∧ I m s₅) (notedBy (model prog w) A env fun e s' => R (.error e) s') s₄) (notedBy (model prog w) A env fun e s' => R (.error e) s') s₃
            else ∃ m, m < n ∧ I m s₃) (notedBy (model prog w) A env fun e s' => R (.error e) s') s₂) (notedBy (model prog w) A env fun e s' => R (.error e) s') s₁) (notedBy (model prog w) A env fun e s' => R (.error e) s') s₁) (notedBy (model prog w) A env fun e s' => R (.error e) s') s)
    (n : Nat) (s : Shared) (h : I n s) :
    codeAny (model prog w) A (.compLoop (.ListComp elt [⟨target, iter, ifs, 0⟩] scope pos) 0 it acc env) R s := by
  refine codeAny_loop rfl I (fun n s hI => ?_) n h
  show wpAny _ A ((compTurn (.ListComp elt [⟨target, iter, ifs, 0⟩] scope pos) 0 it acc env).onRaise (fun x => do noteFrame x env; theTreesLotGoes x)) _ _ s
  refine wpAny_noted ?_
  rw [compTurn_list]
  refine wpAny_bind (wpAny_standAt (wpAny_bind (wpAny_mono (turn n s hI) (fun r s₁ h₁ => ?_) fun _ _ h' => h')))
  cases r with
  | none => exact wpAny_pure h₁
  | some v =>
    refine wpAny_bind (wpAny_mono h₁ (fun _ s₁' h₁' => ?_) fun _ _ h' => h')
    refine wpAny_bind (wpAny_mono h₁' (fun _ s₂ h₂ => wpAny_bind (wpAny_mono h₂ (fun ok s₃ h₃ => ?_) fun _ _ h' => h')) fun _ _ h' => h')
    cases ok with
    | false => exact wpAny_pure ⟨rfl, h₃⟩
    | true =>
      exact wpAny_bind (wpAny_bind (wpAny_mono h₃ (fun x s₄ h₄ => wpAny_bind (wpAny_mono h₄ (fun _ s₅ h₅ => wpAny_pure (wpAny_pure ⟨rfl, h₅⟩)) fun _ _ h' => h')) fun _ _ h' => h'))

/-- the indices that a comprehension has passed -/
theorem range_filter_succ (p : Nat → Bool) (i : Nat) : (List.range (i + 1)).filter p = (List.range i).filter p ++ (if p i then [i] else []) := by
  rw [List.range_succ, List.filter_append]
  cases h : p i <;> simp [h]

structure Turn (prog : Program) (w : World) (A : Around) (cenv : Env) (C : Addr) (oc : List (Str × Addr)) (h₀ : Heap) (tk0 : Nat) (target : Expr) (ifs : List Expr) (elt : Expr) (n : Nat) (P : Nat → Value → Prop) (p : Nat → Bool) (F : Nat → Nat → Value → Heap → Prop) (Bd : Nat → Value → Mp → Mp → Prop) : Prop where
  assign : ∀ i v (s : Shared) m cm E (Q : Unit → Shared → Prop), i < n → P i v → Inn h₀ C oc m cm [] s.heap →
    (∀ s' m' cm', Sm s s' → Inn h₀ C oc m' cm' [] s'.heap → (∀ b o, b ≠ C → (∀ q ∈ oc, q.2 ≠ b) → s.heap.get? b = some o → s'.heap.get? b = some o) → Bd i v m' cm' → Q () s') →
    wpAny (model prog w) A (assign target cenv v) Q E s
  tests : ∀ i v (s : Shared) m cm E, i < n → P i v → Bd i v m cm → Inn h₀ C oc m cm [] s.heap →
    wpAny (model prog w) A (forIn ifs true fun c r => if r = true then do let ok ← isTrue c cenv (eval c cenv); pure (ForInStep.yield ok) else pure (ForInStep.yield r)) (fun ok s' => ok = p i ∧ Gr s s') E s
  elt : ∀ i v (s : Shared) m cm E, i < n → P i v → p i = true → Bd i v m cm → Inn h₀ C oc m cm [] s.heap → tk0 ≤ s.toks →
    wpAny (model prog w) A (eval elt cenv) (fun y s' => F s.heap.objs.size i y s'.heap ∧ Gr s s') E s

theorem comp_loop {elt target iter : Expr} {ifs : List Expr} {scope : Scope} {pos : Pos} {I D C : Addr} {fp wr : List Addr} {n : Nat} {P : Nat → Value → Prop} {St : Nat → Heap → Prop} {cenv : Env}
    {oc : List (Str × Addr)} {h₀ : Heap} {s : Shared} {m cm : Mp} (W : Walks prog w A I fp wr n P St) (hsz : n ≤ sizeLine) {p : Nat → Bool} {F : Nat → Nat → Value → Heap → Prop} {Bd : Nat → Value → Mp → Mp → Prop}
    {tk0 : Nat} (T : Turn prog w A cenv C oc h₀ tk0 target ifs elt n P p F Bd) (htk : tk0 ≤ s.toks) (k : Nat)
    (hF : ∀ k' i y h h', k ≤ k' → (∀ b o, k ≤ b → ¬ isT o → h.get? b = some o → h'.get? b = some o) → F k' i y h → F k i y h')
    (hk : ∀ h : Heap, (∃ o, h.get? C = some o) → (∀ q ∈ oc, ∃ o, h.get? q.2 = some o) → k ≤ h.objs.size)
    (hDk : D < k) (hCk : C < k) (hock : ∀ q ∈ oc, q.2 < k) (hfk : ∀ b ∈ fp, b < k) (hst : St 0 s.heap)
    (h0w : ∀ b o, h₀.get? b = some o → b ∉ wr ∧ b ≠ D)
    (hDC : D ≠ C) (hDoc : ∀ q ∈ oc, q.2 ≠ D) (hDf : D ∉ fp) (hCf : C ∉ fp) (hocf : ∀ q ∈ oc, q.2 ∉ fp)
    (hfree : ∀ i h, St i h → ∀ b ∈ fp, ∃ o, h.get? b = some o ∧ ¬ isT o)
    (hown : ∀ v i (s : Shared) (Q : Unit → Shared → Prop) E, St i s.heap → Q () s → wpAny (model prog w) A (letOwnedTupleGo target (.ref I) v) Q E s)
    (hacc : s.heap.PlainList D #[]) (hin : Inn h₀ C oc m cm [] s.heap)
    (hR : ∀ s' m cm ys, Sm s s' → Inn h₀ C oc m cm [] s'.heap → s'.heap.PlainList D ys → Paired (fun i y => F k i y s'.heap) ((List.range n).filter p) ys.toList → R (.ok .next) s') :
    codeAny (model prog w) A (.compLoop (.ListComp elt [⟨target, iter, ifs, 0⟩] scope pos) 0 (.ref I) (.ref D) cenv) R s := by
  have hCw : C ∉ wr := fun h => hCf (W.sub _ h)
  have hDw : D ∉ wr := fun h => hDf (W.sub _ h)
  have hocw : ∀ q ∈ oc, q.2 ∉ wr := fun q hq h => hocf q hq (W.sub _ h)
  -- the iterator's step keeps a frame
  have inn_wr : ∀ {h h' : Heap} {m cm}, Inn h₀ C oc m cm [] h → (∀ b o, b ∉ wr → h.get? b = some o → h'.get? b = some o) → Inn h₀ C oc m cm [] h' := by
    intro h h' m cm x hkp
    refine ⟨x.ns.at' fun o e => hkp C o hCw e, fun b o e => ?_, x.above, fun q hq => ?_, x.cnew, x.apart, x.names, (fun _ hp => nomatch hp), .nil⟩
    · rcases x.keep b o e with e1 | ⟨ps, more, rfl, e1⟩
      · exact .inl (hkp b o (h0w b o e).1 e1)
      · exact .inr ⟨ps, more, rfl, hkp b _ (h0w b _ e).1 e1⟩
    · obtain ⟨o, ho, hd⟩ := x.cell q hq
      exact ⟨o, hkp _ o (hocw q hq) ho, hd⟩
  refine comp_loop0
    (fun j s' => ∃ i m cm ys, Sm s s' ∧ Inn h₀ C oc m cm [] s'.heap ∧ St i s'.heap ∧ s'.heap.PlainList D ys ∧ Paired (fun i y => F k i y s'.heap) ((List.range i).filter p) ys.toList ∧ ys.size ≤ i ∧ i ≤ n ∧ j = n + 1 - i ∧ tk0 ≤ s'.toks) ?_ (n + 1) s
    ⟨0, m, cm, #[], .refl s, hin, hst, hacc, .nil, Nat.le_refl _, Nat.zero_le _, rfl, htk⟩
  rintro j s' ⟨i, m, cm, ys, hsm, hin', hst', hacc', hF', hys, hi, rfl, htk'⟩
  by_cases hlt : i < n
  · refine wpAny_up (W.item i s' _ _ hlt hst' fun v h₁ tk₁ hPv hst₁ hk₁ hup₁ => ?_)
    have in₁ := inn_wr hin' hk₁
    have acc₁ : h₁.PlainList D ys := hacc'.at fun o e => hk₁ _ o hDw e
    have F₁ : Paired (fun i y => F k i y h₁) ((List.range i).filter p) ys.toList := by
      refine Paired.mono (fun a b => hF k a b _ _ (Nat.le_refl _) fun b o hb _ e => hk₁ b o (fun hw => absurd (hfk b (W.sub b hw)) (Nat.not_lt.mpr hb)) e) hF'
    refine hown v (i + 1) _ _ _ hst₁ ?_
    refine wpAny_up (T.assign i v _ m cm _ _ hlt hPv in₁ fun s₂ m' cm' smA in₂ hk₂ hb hup₂ => ?_)
    have st₂ : St (i + 1) s₂.heap := W.frame _ _ _ hst₁ fun b hbf o e => hk₂ b o (fun h => hCf (h ▸ hbf)) (fun q hq h => hocf q hq (h ▸ hbf)) e
    have acc₂ : s₂.heap.PlainList D ys := acc₁.at fun o e => hk₂ D o hDC (fun q hq => hDoc q hq) e
    have F₂ : Paired (fun i y => F k i y s₂.heap) ((List.range i).filter p) ys.toList :=
      Paired.mono (fun a b => hF k a b _ _ (Nat.le_refl _) fun b o hb _ e => hk₂ b o (fun h => absurd (h ▸ hCk) (Nat.not_lt.mpr hb)) (fun q hq h => absurd (h ▸ hock q hq) (Nat.not_lt.mpr hb)) e) F₁
    refine wpAny_up (wpAny_mono (T.tests i v _ m' cm' _ hlt hPv hb in₂) (fun ok s₃ h₃ hup₃ => ?_) fun _ _ e => e)
    have htk3 : tk0 ≤ s₃.toks := Nat.le_trans (Nat.le_trans (Nat.le_trans htk' hup₁) hup₂) hup₃
    obtain ⟨rfl, g₃⟩ := h₃
    have in₃ := in₂.kp g₃.kp
    have st₃ : St (i + 1) s₃.heap := W.frame _ _ _ st₂ fun b hbf o e => by
      obtain ⟨o', e', hn⟩ := hfree _ _ st₂ b hbf
      have : o' = o := Option.some.inj (e'.symm.trans e)
      subst this
      exact g₃.kp.get e hn
    have acc₃ := g₃.kp.list acc₂
    have sm₃ : Sm s s₃ := hsm.trans ((Sm.heap s' h₁ tk₁).trans (smA.trans g₃.sm))
    have F₃ : Paired (fun i y => F k i y s₃.heap) ((List.range i).filter p) ys.toList :=
      Paired.mono (fun a b => hF k a b _ _ (Nat.le_refl _) fun b o hb hn e => g₃.kp.get e hn) F₂
    cases hp : p i with
    | false =>
      simp only [Bool.false_eq_true, if_false]
      refine ⟨n + 1 - (i + 1), by omega, i + 1, m', cm', ys, sm₃, in₃, st₃, acc₃, ?_, by omega, hlt, rfl, htk3⟩
      rw [range_filter_succ, hp]
      simpa using F₃
    | true =>
      simp only [if_true]
      refine wpAny_up (wpAny_mono (T.elt i v _ m' cm' _ hlt hPv hp hb in₃ htk3) (fun y s₄ h₄ hup₄ => ?_) fun _ _ e => e)
      obtain ⟨Fy, g₄⟩ := h₄
      have in₄ := in₃.kp g₄.kp
      have st₄ : St (i + 1) s₄.heap := W.frame _ _ _ st₃ fun b hbf o e => by
        obtain ⟨o', e', hn⟩ := hfree _ _ st₃ b hbf
        have : o' = o := Option.some.inj (e'.symm.trans e)
        subst this
        exact g₄.kp.get e hn
      have acc₄ := g₄.kp.list acc₃
      have hk₃ : k ≤ s₃.heap.objs.size := by
        refine hk _ ?_ ?_
        · obtain ⟨o, _, _, e, _⟩ := in₃.ns; exact ⟨o, e⟩
        · intro q hq; obtain ⟨o, e, _⟩ := in₃.cell q hq; exact ⟨o, e⟩
      refine wpAny_list_append_plain (hsz := by omega) acc₄ fun h₅ hl₅ hs₅ => ?_
      have Fs : Paired (fun i y => F k i y h₅) ((List.range i).filter p) ys.toList :=
        Paired.mono (fun a b => hF k a b _ _ (Nat.le_refl _) fun b o hb hn e => by
          rw [hs₅.2 b (fun h => absurd (h ▸ hDk) (Nat.not_lt.mpr hb))]
          exact g₄.kp.get e hn) F₃
      have Fy' : F k i y h₅ := hF _ _ _ _ _ hk₃ (fun b o hb hn e => by
          rw [hs₅.2 b (fun h => absurd (h ▸ hDk) (Nat.not_lt.mpr hb))]
          exact e) Fy
      refine ⟨n + 1 - (i + 1), by omega, i + 1, m', cm', ys.push y, sm₃.trans (g₄.sm.trans (.heap1 _ _)), ?_, ?_, hl₅, ?_, by rw [Array.size_push]; omega, hlt, rfl, Nat.le_trans htk3 hup₄⟩
      · refine ⟨in₄.ns.sameBut hs₅ (Ne.symm hDC), fun b o e => ?_, in₄.above, fun q hq => (in₄.cell q hq).sameBut hs₅ (hDoc q hq), in₄.cnew, in₄.apart, in₄.names, (fun _ hp => nomatch hp), .nil⟩
        show h₅.get? b = some o ∨ _
        rw [hs₅.2 b (h0w b o e).2]
        exact in₄.keep b o e
      · refine W.frame _ _ _ st₄ fun b hbf o e => ?_
        show h₅.get? b = some o
        rw [hs₅.2 b (fun h => hDf (h ▸ hbf))]; exact e
      · rw [range_filter_succ, hp]
        simpa using Paired.snoc Fs Fy'
  · have hin2 : i = n := by omega
    subst hin2
    refine W.done s' _ _ hst' fun h₁ tk₁ hk₁ => ?_
    refine hR _ m cm ys (hsm.trans (.heap _ _ _)) (inn_wr hin' hk₁) (hacc'.at fun o e => hk₁ _ o hDw e) ?_
    exact Paired.mono (fun a b => hF k a b _ _ (Nat.le_refl _) fun b o hb _ e => hk₁ b o (fun hw => absurd (hfk b (W.sub b hw)) (Nat.not_lt.mpr hb)) e) hF'
end
end Mine
end

section
open PySem PySem.Spec PySem.Calls PySem.W PyProof.Rows
set_option Elab.async false
namespace Mine

theorem ltA {a b : Nat} (h : a < b) : @LT.lt Addr _ a b := h
theorem leA {a b : Nat} (h : a ≤ b) : @LE.le Addr _ a b := h
theorem neA {a b : Nat} (h : a ≠ b) : @Ne Addr a b := h
theorem eqA {a b : Nat} (h : a = b) : @Eq Addr a b := h
theorem natlt {a b : Addr} (h : a < b) : @LT.lt Nat _ a b := h
theorem cf_append : ∀ (names : List (Str × NameKind)) (n : Nat) (acc : List (Str × Addr)), cellsFrom n names acc = cellsFrom n names [] ++ acc
  | [], _, _ => rfl
  | (x, k) :: r, n, acc => by
    unfold cellsFrom
    split
    · rw [cf_append r (n + 1) ((x, n) :: acc), cf_append r (n + 1) [(x, n)], List.append_assoc]; rfl
    · exact cf_append r n acc
theorem cf_len : ∀ (names : List (Str × NameKind)) (n n' : Nat), (cellsFrom n names []).length = (cellsFrom n' names []).length := fun names n n' => by
  have := congrArg List.length (cellsFrom_names names n n' [] [] rfl)
  simpa using this
theorem cf_lt : ∀ (names : List (Str × NameKind)) (n : Nat), ∀ q ∈ cellsFrom n names [], @LE.le Nat _ n q.2 ∧ @LT.lt Nat _ q.2 (n + (cellsFrom n names []).length)
  | [], _, _, h => nomatch h
  | (x, k) :: r, n, q, h => by
    unfold cellsFrom at h ⊢
    split at h
    · rename_i hk
      rw [if_pos hk]
      rw [cf_append] at h ⊢
      rw [List.length_append]
      rcases List.mem_append.mp h with h | h
      · have := cf_lt r (n + 1) q h
        simp only [List.length_cons, List.length_nil]
        exact ⟨by omega, by omega⟩
      · rw [List.mem_singleton.mp h]
        simp only [List.length_cons, List.length_nil]
        exact ⟨Nat.le_refl n, by show n < _; omega⟩
    · rename_i hk
      rw [if_neg hk]
      exact cf_lt r n q h
theorem cf_last : ∀ (names : List (Str × NameKind)) (n : Nat), cellsFrom n names [] = [] ∨ ∃ q ∈ cellsFrom n names [], @Eq Nat (q.2 + 1) (n + (cellsFrom n names []).length)
  | [], _ => .inl rfl
  | (x, k) :: r, n => by
    unfold cellsFrom
    split
    · right
      rw [cf_append, List.length_append]
      rcases cf_last r (n + 1) with h | ⟨q, hq, e⟩
      · rw [h]
        exact ⟨(x, n), by simp, by show n + 1 = _; simp⟩
      · exact ⟨q, List.mem_append_left _ hq, by simp only [List.length_cons, List.length_nil]; omega⟩
    · exact cf_last r n
theorem pc_size : ∀ (names : List (Str × NameKind)) (h : Heap), (pushCells h names).objs.size = h.objs.size + (cellsFrom 0 names []).length
  | [], _ => rfl
  | (x, k) :: r, h => by
    unfold pushCells
    rw [show cellsFrom 0 ((x, k) :: r) [] = if k == .cell then cellsFrom (0 + 1) r [(x, 0)] else cellsFrom 0 r [] from rfl]
    split
    · rw [pc_size r, Heap.size_push, cf_append r (0 + 1), List.length_append, cf_len r (0 + 1) 0]
      simp only [List.length_cons, List.length_nil]; omega
    · exact pc_size r h

def compEnvD (scope : Scope) (cl : List (Str × Addr)) (C : Addr) (env : Env) : Env :=
  { scope := relabel scope env, locals := C, globals := env.globals, cells := cellsFrom (C + 1) scope.names cl, qual := env.qual, func := none, code := env.code, frame := env.frame, builtins := env.builtins }

section
variable {prog : Program} {w : World} {A : Around} {E : Value → Shared → Prop} {s : Shared} {env : Env}

theorem comp_env {M : Model} {scope : Scope} {cl : List (Str × Addr)} {Q : Env → Shared → Prop}
    (h : Q { scope, locals := s.heap.objs.size, globals := env.globals, cells := cellsFrom (s.heap.objs.size + 1) scope.names cl, qual := env.qual, func := none, code := env.code, frame := env.frame, builtins := env.builtins }
      { s with heap := pushCells (s.heap.push { cls := .type "dict", data := .dict #[] }) scope.names }) :
    wpAny M A (newFunctionEnv scope env.globals cl [] env.qual none .none (some env)) Q E s := by
  simp only [newFunctionEnv, Option.isSome_some, if_true]
  refine wpAny_bind (wpAny_alloc ?_)
  refine wpAny_bind (wpAny_layCells _ (fun name kind cells => by cases hkc : kind == NameKind.cell <;> simp [hkc]) _ _ _ _ ?_)
  rw [show ({ s with heap := s.heap.push { cls := .type "dict", data := .dict #[] } } : Shared).heap.objs.size = s.heap.objs.size + 1 from Heap.size_push ..]
  exact wpAny_bind (wpAny_pure (wpAny_pure h))

theorem comp_core {tk0 : Nat} {elt target iter : Expr} {ifs : List Expr} {scope : Scope} {cl : List (Str × Addr)} {pos : Pos} {s₂ : Shared} {I : Addr} {fp wr : List Addr} {n : Nat} {P : Nat → Value → Prop} {St : Nat → Heap → Prop}
    (W : Walks prog w A I fp wr n P St) (hsz : n ≤ sizeLine) {p : Nat → Bool} {F : Nat → Nat → Value → Heap → Prop} {Bd : Nat → Value → Mp → Mp → Prop} {RR : Value → Addr → Result → Shared → Prop}
    (hnd : ((cellsFrom 0 scope.names []).map (·.1)).Nodup) (hst : St 0 s₂.heap) (hfp : ∀ b ∈ fp, b < s₂.heap.objs.size)
    (hfree : ∀ i h, St i h → ∀ b ∈ fp, ∃ o, h.get? b = some o ∧ ¬ isT o)
    (hown : ∀ v i (s : Shared) (Q : Unit → Shared → Prop) E, St i s.heap → Q () s → wpAny (model prog w) A (letOwnedTupleGo target (.ref I) v) Q E s)
    (hF : ∀ k k' i y h h', k ≤ k' → (∀ b o, k ≤ b → ¬ isT o → h.get? b = some o → h'.get? b = some o) → F k' i y h → F k i y h')
    (hT : ∀ C, (∀ o, s₂.heap.get? C ≠ some o) → Turn prog w A (compEnvD scope cl C env) C (cellsFrom (C + 1) scope.names []) (hideAll s₂.heap wr) tk0 target ifs elt n P p F Bd) (htk : tk0 ≤ s₂.toks)
    (hRR : ∀ D C k s' m cm ys, Sm s₂ s' → (∀ o, s₂.heap.get? D ≠ some o) → (∀ o, s₂.heap.get? C ≠ some o) → D ≠ C → C < k → D < k → (∀ b o, s₂.heap.get? b = some o → b < k) → Inn (hideAll s₂.heap wr) C (cellsFrom (C + 1) scope.names []) m cm [] s'.heap → s'.heap.PlainList D ys →
      Paired (fun i y => F k i y s'.heap) ((List.range n).filter p) ys.toList → RR (.ref D) C (.ok .next) s') :
    wpAny (model prog w) A (newList []) (fun acc s₃ => wpAny (model prog w) A (newFunctionEnv scope env.globals cl [] env.qual none .none (some env)) (fun cenv s₄ =>
      codeAny (model prog w) A (.compStart (.ListComp elt [⟨target, iter, ifs, 0⟩] scope pos) 0 (.ref I) acc { cenv with scope := relabel scope env }) (RR acc cenv.locals) s₄) E s₃) E s₂ := by
  refine wpAny_newObj_type (comp_env ?_)
  dsimp only
  generalize hH2 : s₂.heap.push { cls := .type "list", dict := none, data := .seq ([] : List Value).toArray } = H2
  have hC : H2.objs.size = s₂.heap.objs.size + 1 := by rw [← hH2, Heap.size_push]
  generalize hH3 : H2.push { cls := .type "dict", data := .dict #[] } = H3
  have hC3 : H3.objs.size = s₂.heap.objs.size + 2 := by rw [← hH3, Heap.size_push, hC]
  generalize hh₁ : pushCells H3 scope.names = h₁
  have none_of : ∀ a, s₂.heap.objs.size ≤ a → ∀ o, s₂.heap.get? a ≠ some o := fun a ha o e => absurd (Heap.lt_size e) (Nat.not_lt.mpr ha)
  have k2 : ∀ b o, s₂.heap.get? b = some o → H2.get? b = some o := fun b o e => hH2 ▸ Heap.get?_push_of_some _ e
  have k3 : ∀ b o, H2.get? b = some o → H3.get? b = some o := fun b o e => hH3 ▸ Heap.get?_push_of_some _ e
  have k1 : ∀ b o, H3.get? b = some o → h₁.get? b = some o := fun b o e => hh₁ ▸ pushCells_keeps _ _ b o e
  have kk : ∀ b o, s₂.heap.get? b = some o → h₁.get? b = some o := fun b o e => k1 b o (k3 b o (k2 b o e))
  have ok := cellsFrom_ok scope.names H3 (s₂.heap.objs.size + 2) [] ⟨fun _ _ hm => (nomatch hm), List.Pairwise.nil⟩ (by rw [hC3]; exact Nat.le_refl _)
  rw [hh₁, hC3] at ok
  have oce : cellsFrom (H2.objs.size + 1) scope.names [] = cellsFrom (s₂.heap.objs.size + 2) scope.names [] := by rw [hC]
  have hocl := cf_lt scope.names (s₂.heap.objs.size + 2)
  have hlen : (cellsFrom (s₂.heap.objs.size + 2) scope.names []).length = (cellsFrom 0 scope.names []).length := cf_len ..
  have hh0 : ∀ b o, (hideAll s₂.heap wr).get? b = some o → s₂.heap.get? b = some o := fun b o e => of_hideAll _ e
  have hin : Inn (hideAll s₂.heap wr) H2.objs.size (cellsFrom (s₂.heap.objs.size + 2) scope.names []) (fun _ => none) (fun _ => none) [] h₁ := by
    refine ⟨?_, .of fun b o e => kk b o (hh0 b o e), fun o e => none_of _ (by rw [hC]; omega) _ (hh0 _ _ e), fun q hq => (ok.empty q.1 q.2 hq).1, fun q hq => ⟨?_, fun o e => none_of _ (by have := hocl q hq; omega) _ (hh0 _ _ e)⟩, ok.apart, cells_names hnd _, (fun _ hp => nomatch hp), .nil⟩
    · exact Heap.Ns.keeps (hH3 ▸ Heap.Ns.new H2 (.type "dict")) k1
    · rw [hC]; have := hocl q hq; exact neA (by omega)
  have hacc : h₁.PlainList s₂.heap.objs.size #[] := ⟨_, k1 _ _ (k3 _ _ (hH2 ▸ Heap.get?_push_size _ rfl))⟩
  have loop : codeAny (model prog w) A (.compLoop (.ListComp elt [⟨target, iter, ifs, 0⟩] scope pos) 0 (.ref I) (.ref s₂.heap.objs.size)
      (compEnvD scope cl H2.objs.size env)) (RR (.ref s₂.heap.objs.size) H2.objs.size) { s₂ with heap := h₁ } := by
    have hT' := hT H2.objs.size (none_of _ (by rw [hC]; omega))
    rw [oce] at hT'
    have hD2 : @Ne Addr s₂.heap.objs.size H2.objs.size := by rw [hC]; exact Nat.ne_of_lt (Nat.lt_succ_self _)
    have hf' : ∀ b ∈ fp, @LT.lt Nat _ b s₂.heap.objs.size := hfp
    refine comp_loop (s := { s₂ with heap := h₁ }) W hsz hT' htk (s₂.heap.objs.size + 2 + (cellsFrom 0 scope.names []).length) (fun k' i y h h' => hF _ k' i y h h') ?_ (ltA (by omega)) (by rw [hC]; exact ltA (by omega)) (fun q hq => by have := hocl q hq; exact ltA (by omega)) (fun b hb => by have := hf' b hb; exact ltA (by omega))
      (W.frame _ _ _ hst fun b _ o e => kk b o e) (fun b o e => ⟨fun hw => (by rw [hideAll_none _ hw] at e; cases e), fun h => none_of _ (Nat.le_of_eq h.symm) _ (hh0 _ _ e)⟩)
      hD2 (fun q hq => by have := hocl q hq; exact neA (by omega)) (fun hm => by have := hf' _ hm; exact Nat.lt_irrefl _ this) (fun hm => by have := hf' _ hm; rw [hC] at this; omega) (fun q hq hm => by have := hf' _ hm; have := hocl q hq; omega)
      hfree hown hacc hin (fun s' m cm ys sm x pl pr => hRR _ _ _ s' m cm ys ((Sm.heap1 s₂ h₁).trans sm) (none_of _ (Nat.le_refl _)) (none_of _ (by rw [hC]; exact leA (by omega))) hD2 (by rw [hC]; exact ltA (by omega)) (ltA (by omega)) (fun b o e => by have := natlt (Heap.lt_size e); exact ltA (by omega)) (by rw [oce]; exact x) pl pr)
    intro h ⟨o, ho⟩ hq
    rcases cf_last scope.names (s₂.heap.objs.size + 2) with e | ⟨q, hq', e⟩
    · rw [← hlen, e]
      have := natlt (Heap.lt_size ho)
      rw [hC] at this
      simp only [List.length_nil]; exact leA (by omega)
    · obtain ⟨o', ho'⟩ := hq q hq'
      have := natlt (Heap.lt_size ho')
      exact leA (by omega)
  have hst₁ : St 0 ({ s₂ with heap := h₁ } : Shared).heap := W.frame _ _ _ hst fun b _ o e => kk b o e
  refine codeAny_compStart_list ?_ ?_
  · exact loop
  · exact W.self 0 _ _ _ hst₁ loop
end
end Mine
end

section
open PySem PySem.Spec PySem.Calls PySem.W PyProof.Rows
set_option Elab.async false
namespace Mine
def plainIter (c : String) : Bool := !["enumerate", "zip", "dict_itemiterator", "dict_reverseitemiterator", "odict_iterator", "itertools.zip_longest", "itertools.pairwise"].contains c
section
variable {prog : Program} {w : World} {A : Around} {E : Value → Shared → Prop} {s : Shared} {env : Env}
theorem own_ok {M : Model} {target : Expr} {I : Addr} {o : Obj} {c : String} {v : Value} {Q : Unit → Shared → Prop} (e : s.heap.get? I = some o) (hc : o.cls = .type c) (hp : plainIter c = true) (h : Q () s) :
    wpAny M A (letOwnedTupleGo target (.ref I) v) Q E s := by
  unfold letOwnedTupleGo
  split
  all_goals first
    | exact wpAny_pure h
    | (split
       · rename_i r a heq
         cases heq
         refine wpAny_bind (wpAny_load e ?_)
         rw [hc]
         split
         · rename_i n vs h1 h2
           have hn : n = c := by injection h1 with h1; exact h1.symm
           subst hn
           have : (["enumerate", "zip", "dict_itemiterator", "dict_reverseitemiterator", "odict_iterator", "itertools.zip_longest", "itertools.pairwise"].contains n) = false := by
             simpa [plainIter] using hp
           rw [this]
           exact wpAny_pure h
         · exact wpAny_pure h
       · exact wpAny_pure h)

structure Src (prog : Program) (w : World) (A : Around) (iter : Expr) (env : Env) (s : Shared) (n : Nat) (P : Nat → Value → Prop) : Prop where
  run : ∀ (E Q : Value → Shared → Prop),
    (∀ s₂ I fp wr St, Gr s s₂ → Walks prog w A I fp wr n P St → St 0 s₂.heap → (∀ b ∈ fp, b < s₂.heap.objs.size) → (∀ b ∈ wr, ∀ o, s.heap.get? b ≠ some o) →
      (∀ i h, St i h → ∀ b ∈ fp, ∃ o, h.get? b = some o ∧ ¬ isT o) → (∀ i h, St i h → ∃ o c, h.get? I = some o ∧ o.cls = .type c ∧ plainIter c = true) → Q (.ref I) s₂) →
    wpAny (model prog w) A (eval iter env) (fun xv s₁ => wpAny (model prog w) A (pyIter xv) Q E s₁) E s

theorem Kp.but {h h₁ h' : Heap} (k : Kp h h₁) {C : Addr} (hC : ∀ o, h.get? C ≠ some o) (hs : Heap.SameBut C h₁ h') : Kp h h' := by
  intro b o e
  have ne : b ≠ C := by rintro rfl; exact hC o e
  rw [hs.2 b ne]
  exact k b o e
theorem kp_hide {s s₂ : Shared} (g : Gr s s₂) {wr : List Addr} (hw : ∀ b ∈ wr, ∀ o, s.heap.get? b ≠ some o) : Kp s.heap (hideAll s₂.heap wr) := by
  intro b o e
  have nb : b ∉ wr := fun h => hw b h o e
  rcases g.kp b o e with e1 | ⟨ps, more, rfl, e1⟩
  · exact .inl (hideAll_get _ e1 nb)
  · exact .inr ⟨ps, more, rfl, hideAll_get _ e1 nb⟩

theorem comp_src {elt target iter : Expr} {ifs : List Expr} {scope : Scope} {cl : List (Str × Addr)} {pos : Pos} {n : Nat} {P : Nat → Value → Prop} {p : Nat → Bool} {F : Nat → Nat → Value → Heap → Prop} {Bd : Nat → Value → Mp → Mp → Prop} {Q : Value → Shared → Prop}
    (S : Src prog w A iter env s n P) (hsz : n ≤ sizeLine)
    (hT : ∀ h₀ C, Kp s.heap h₀ → (∀ o, s.heap.get? C ≠ some o) → Turn prog w A (compEnvD scope cl C env) C (cellsFrom (C + 1) scope.names []) h₀ s.toks target ifs elt n P p F Bd)
    (hF : ∀ k k' i y h h', k ≤ k' → (∀ b o, k ≤ b → ¬ isT o → h.get? b = some o → h'.get? b = some o) → F k' i y h → F k i y h')
    (hQ : ∀ D k s' ys, Gr s s' → (∀ o, s.heap.get? D ≠ some o) → s'.heap.PlainList D ys → Paired (fun i y => F k i y s'.heap) ((List.range n).filter p) ys.toList → Q (.ref D) s')
    (hclos : closureFor scope env = pure cl) (hnames : ∀ x ∈ scope.names, x.2 = .local → scope.names.lookup x.1 = some .local) (hnd : ((cellsFrom 0 scope.names []).map (·.1)).Nodup)
    (hkind : scope.kind = .function := by rfl) (hs : ∀ x, foldedSetIterable iter env x = pure x := by intro _; rfl) :
    wpAny (model prog w) A (eval (.ListComp elt [⟨target, iter, ifs, 0⟩] scope pos) env) Q E s := by
  rw [eval_ListComp]
  refine wpAny_comprehension_free (use := none) rfl hs hclos hkind hnames (wpAny_up2 (S.run _ _ fun s₂ I fp wr St g W hst hfp hw hfree hown hup => ?_))
  have kh := kp_hide g hw
  have no2 : ∀ C, (∀ o, s₂.heap.get? C ≠ some o) → ∀ o, s.heap.get? C ≠ some o := fun C hC o e => by
    obtain ⟨o', e'⟩ := g.kp.live e
    exact hC o' e'
  refine comp_core (RR := fun acc C => compPost (model prog w) A E none Q acc C) W hsz hnd hst hfp hfree (fun v i s Q E st hQ => ?_) hF (fun C hC => hT _ C kh (no2 C hC)) hup ?_
  · obtain ⟨o, c, e, hc, hp⟩ := hown i _ st
    exact own_ok e hc hp hQ
  · intro D C k s' m cm ys sm hD hC hDC hCk hDk _ x pl pr
    refine ⟨m, x.ns, fun h' hs' => ?_⟩
    refine hQ D k _ ys ⟨(g.sm.trans sm).trans (.heap1 _ _), ?_⟩ (no2 D hD) (pl.extBut hs'.extBut hDC) ?_
    · exact Kp.but (kh.trans x.keep) (no2 C hC) hs'
    · exact Paired.mono (fun a b => hF k k a b _ _ (Nat.le_refl _) fun b o hb _ e => by rw [hs'.2 b (fun h => absurd (h ▸ hCk) (Nat.not_lt.mpr hb))]; exact e) pr

abbrev lobj (ys : Array Value) (n : Nat) : Obj := { cls := .type "list", data := .seq ys n }
abbrev tup (ys : Array Value) : Obj := { cls := .type "tuple", data := .seq ys }

theorem Inn.other {h₀ h h' : Heap} {L C : Addr} {oc : List (Str × Addr)} {m cm : Mp} {led : List (Addr × Obj)} (x : Inn h₀ L oc m cm led h) (hL : L ≠ C) (hoc : ∀ q ∈ oc, q.2 ≠ C) (hled : ∀ p ∈ led, p.1 ≠ C) (h0 : ∀ o, h₀.get? C ≠ some o)
    (hs : Heap.SameBut C h h') : Inn h₀ L oc m cm led h' :=
  ⟨x.ns.sameBut hs hL, Kp.but x.keep h0 hs, x.above, fun q hq => (x.cell q hq).sameBut hs (hoc q hq), x.cnew, x.apart, x.names, fun p hp => ⟨(hs.2 _ (hled p hp)).trans (x.led p hp).1, (x.led p hp).2⟩, x.uniq⟩

theorem comp_assign {elt target iter : Expr} {ifs : List Expr} {scope : Scope} {cl : List (Str × Addr)} {pos spos py : Pos} {y : Str} {n : Nat} {P : Nat → Value → Prop} {p : Nat → Bool} {F : Nat → Nat → Value → Heap → Prop} {Bd : Nat → Value → Mp → Mp → Prop} {Q : Flow → Shared → Prop}
    {h₀ : Heap} {oc : List (Str × Addr)} {m cm : Mp} {led : List (Addr × Obj)} (I : Inn h₀ env.locals oc m cm led s.heap)
    (S : Src prog w A iter env s n P) (hsz : n ≤ sizeLine)
    (hT : ∀ h₀ C, Kp s.heap h₀ → (∀ o, s.heap.get? C ≠ some o) → Turn prog w A (compEnvD scope cl C env) C (cellsFrom (C + 1) scope.names []) h₀ s.toks target ifs elt n P p F Bd)
    (hF : ∀ k k' i y h h', k ≤ k' → (∀ b o, k ≤ b → ¬ isT o → h.get? b = some o → h'.get? b = some o) → F k' i y h → F k i y h')
    (hQ : ∀ D k s' ys z, Sm s s' → (∀ o, s.heap.get? D ≠ some o) → Inn h₀ env.locals oc (up m y (.ref D)) cm ((D, lobj ys z) :: led) s'.heap → Paired (fun i y => F k i y s'.heap) ((List.range n).filter p) ys.toList → Q .next s')
    (hsw : swapsWith (.ListComp elt [⟨target, iter, ifs, 0⟩] scope pos) (some (.Name y py)) spos.line env = pure true)
    (hclos : closureFor scope env = pure cl) (hnames : ∀ x ∈ scope.names, x.2 = .local → scope.names.lookup x.1 = some .local) (hnd : ((cellsFrom 0 scope.names []).map (·.1)).Nodup)
    (hkind : scope.kind = .function := by rfl) (hk : env.scope.kind = .function := by rfl) (hy : env.kindOf y = some .local := by rfl) (hs : ∀ x, foldedSetIterable iter env x = pure x := by intro _; rfl) :
    wpAny (model prog w) A (exec (.Assign [.Name y py] (.ListComp elt [⟨target, iter, ifs, 0⟩] scope pos) spos) env) Q E s := by
  rw [exec_Assign_Name_used _ _ _ _ hsw]
  refine wpAny_bind (wpAny_standAt (wpAny_bind ?_))
  show wpAny _ A (do let _ ← comprehension (.ListComp elt [⟨target, iter, ifs, 0⟩] scope pos) scope env _ (newList []) false (eval iter env) (some (assign (.Name y py) env))) _ _ s
  refine wpAny_bind (wpAny_mono (wpAny_comprehension_free (use := some (assign (.Name y py) env)) (Q := fun _ s' => Q .next s') rfl hs hclos hkind hnames (wpAny_up2 (S.run _ _ fun s₂ Ia fp wr St g W hst hfp hw hfree hown hup => ?_))) (fun _ s' hq => wpAny_pure (wpAny_pure hq)) fun _ _ e => e)
  have kh := kp_hide g hw
  have no2 : ∀ C, (∀ o, s₂.heap.get? C ≠ some o) → ∀ o, s.heap.get? C ≠ some o := fun C hC o e => by
    obtain ⟨o', e'⟩ := g.kp.live e
    exact hC o' e'
  refine comp_core (RR := fun acc C => compPost (model prog w) A E (some (assign (.Name y py) env)) (fun _ s' => Q .next s') acc C) W hsz hnd hst hfp hfree (fun v i s Q E st hQ => ?_) hF (fun C hC => hT _ C kh (no2 C hC)) hup ?_
  · obtain ⟨o, c, e, hc, hp⟩ := hown i _ st
    exact own_ok e hc hp hQ
  · intro D C k s' m' cm' ys sm hD hC hDC hCk hDk hlive x pl pr
    obtain ⟨z, pl'⟩ := pl
    have nC := no2 C hC
    have I' := I.new (kh.trans x.keep) (no2 D hD) pl' (not_isT_cls rfl)
    have LC : env.locals ≠ C := by rintro rfl; obtain ⟨o, _, _, ho, _⟩ := I.ns; exact nC _ ho
    show wpAny _ A (assign (.Name y py) env (.ref D)) _ _ _
    refine wpAny_assign_Name (st_L I' (fun h₂ t I₂ hs₂ => ?_) hk hy)
    refine ⟨m', x.ns.sameBut hs₂ (Ne.symm LC), fun h' hs' => ?_⟩
    refine hQ D k _ ys z ((g.sm.trans sm).trans ((Sm.heap _ h₂ t).trans (.heap1 _ h'))) (no2 D hD) ?_ ?_
    · refine Inn.other I₂ LC ?_ ?_ ?_ hs'
      · rintro q hq rfl
        obtain ⟨o, ho, _⟩ := I.cell q hq; exact nC _ ho
      · intro p hp
        rcases List.mem_cons.mp hp with rfl | hp
        · exact hDC
        · intro e; exact nC _ (e ▸ (I.led p hp).1)
      · intro o e
        obtain ⟨o', e'⟩ := I.keep.live e
        exact nC _ e'
    · refine Paired.mono (fun a b => hF k k a b _ _ (Nat.le_refl _) fun b o hb _ e => ?_) pr
      rw [hs'.2 b (fun h => absurd (h ▸ hCk) (Nat.not_lt.mpr hb)), hs₂.2 b ?_]
      · exact e
      · rintro rfl
        obtain ⟨o₁, _, _, ho, _⟩ := I.ns
        obtain ⟨o₂, ho₂⟩ := g.kp.live ho
        exact absurd (hlive _ _ ho₂) (Nat.not_lt.mpr hb)
end
end Mine
end

section
open PySem PySem.Spec PySem.Calls PySem.W PyProof.Rows
set_option Elab.async false
namespace Mine
def IntV (v : Value) (i : Int) : Prop := ∃ t, v = .int i t
def StrV (v : Value) (x : Str) : Prop := ∃ t, v = .str x t
/-- a list of ints stands at l -/
def LI (h : Heap) (l : Addr) (is : List Int) : Prop := ∃ ys, h.PlainList l ys ∧ Paired (fun i y => IntV y i) is ys.toList
def LS (h : Heap) (l : Addr) (is : List Str) : Prop := ∃ ys, h.PlainList l ys ∧ Paired (fun i y => StrV y i) is ys.toList
theorem Kp.li {h h' : Heap} (k : Kp h h') {l is} (x : LI h l is) : LI h' l is := let ⟨ys, a, b⟩ := x; ⟨ys, k.list a, b⟩
theorem Kp.ls {h h' : Heap} (k : Kp h h') {l is} (x : LS h l is) : LS h' l is := let ⟨ys, a, b⟩ := x; ⟨ys, k.list a, b⟩
theorem Paired.get {α β : Type} {F : α → β → Prop} : ∀ {l₁ : List α} {l₂ : List β}, Paired F l₁ l₂ → ∀ (j : Nat) (a : α), l₁[j]? = some a → ∃ b, l₂[j]? = some b ∧ F a b
  | _, _, .nil, j, a, h => by simp at h
  | _, _, .cons h t, 0, a, e => by simp at e; subst e; exact ⟨_, rfl, h⟩
  | _, _, .cons h t, j + 1, a, e => by simpa using Paired.get t j a (by simpa using e)
theorem Paired.get' {α β : Type} {F : α → β → Prop} : ∀ {l₁ : List α} {l₂ : List β}, Paired F l₁ l₂ → ∀ (j : Nat) (b : β), l₂[j]? = some b → ∃ a, l₁[j]? = some a ∧ F a b
  | _, _, .nil, j, a, h => by simp at h
  | _, _, .cons h t, 0, a, e => by simp at e; subst e; exact ⟨_, rfl, h⟩
  | _, _, .cons h t, j + 1, a, e => by simpa using Paired.get' t j a (by simpa using e)
theorem Paired.map {α β γ : Type} {F : γ → β → Prop} (g : α → γ) : ∀ {l₁ : List α} {l₂ : List β}, Paired (fun a b => F (g a) b) l₁ l₂ → Paired F (l₁.map g) l₂
  | _, _, .nil => .nil
  | _, _, .cons h t => .cons h (Paired.map g t)

section
variable {prog : Program} {w : World} {A : Around} {E : Value → Shared → Prop} {s : Shared} {env : Env}

/-! ### calls by a name -/
section
variable {M : Model} {K : Frag} {mg mb : Mp} {x : Str} {p pos : Pos} {e : Expr} {rest : List Expr} {Q : Value → Shared → Prop}
theorem CallB {id : String} (W : Wd K mg mb s.heap) (hn : nsIn K mainGlobals x = some none) (hb : bootBuiltins x = some (.builtin id)) (hx : x ≠ "__name__")
    (h : wpAny M A (spliced (backTo pos (starEach (e :: rest) env))) (fun vs s₁ => wpAny M A (call (.builtin id) vs) Q E s₁) E s)
    (he : starEach (e :: rest) env = (false, eval e env) :: starEach rest env := by rfl) (hplain : (backTo pos (starEach rest env)).any (·.1) = false := by rfl)
    (hg : env.globals = mainGlobals := by rfl) (hbn : env.builtins = builtinsNs := by rfl) (hk : env.scope.kind = .function := by rfl) (hkx : env.kindOf x = some .globalImplicit := by rfl) (hd : (x == ("__debug__" : Str)) = false := by decide) :
    wpAny M A (eval (.Call (.Name x p) (e :: rest) [] pos) env) Q E s := by
  refine Call_Name rfl (nm_B W hn hb hx ?_ hg hbn hk hkx hd)
  rw [he] at h ⊢
  exact callWith_builtin (by show (false || (backTo pos (starEach rest env)).any (·.1)) = false; rw [hplain]; rfl) (evalArgs_plain h)
theorem CallKB {id : String} (W : Wd K mg mb s.heap) (hn : nsIn K mainGlobals x = some (some (.builtin id)))
    (h : wpAny M A (spliced (backTo pos (starEach (e :: rest) env))) (fun vs s₁ => wpAny M A (call (.builtin id) vs) Q E s₁) E s)
    (he : starEach (e :: rest) env = (false, eval e env) :: starEach rest env := by rfl) (hplain : (backTo pos (starEach rest env)).any (·.1) = false := by rfl)
    (hg : env.globals = mainGlobals := by rfl) (hk : env.scope.kind = .function := by rfl) (hkx : env.kindOf x = some .globalImplicit := by rfl) (hd : (x == ("__debug__" : Str)) = false := by decide) :
    wpAny M A (eval (.Call (.Name x p) (e :: rest) [] pos) env) Q E s := by
  refine Call_Name rfl (nm_K W hn ?_ hg hk hkx hd)
  rw [he] at h ⊢
  exact callWith_builtin (by show (false || (backTo pos (starEach rest env)).any (·.1)) = false; rw [hplain]; rfl) (evalArgs_plain h)
theorem CallT {T : String} (W : Wd K mg mb s.heap) (hn : nsIn K mainGlobals x = some none) (hb : bootBuiltins x = some (.type T)) (hx : x ≠ "__name__")
    (h : wpAny M A (spliced (backTo pos (starEach (e :: rest) env))) (fun vs s₁ => wpAny M A (call (.type T) vs) Q E s₁) E s)
    (he : starEach (e :: rest) env = (false, eval e env) :: starEach rest env := by rfl) (hplain : (backTo pos (starEach rest env)).any (·.1) = false := by rfl)
    (hg : env.globals = mainGlobals := by rfl) (hbn : env.builtins = builtinsNs := by rfl) (hk : env.scope.kind = .function := by rfl) (hkx : env.kindOf x = some .globalImplicit := by rfl) (hd : (x == ("__debug__" : Str)) = false := by decide) :
    wpAny M A (eval (.Call (.Name x p) (e :: rest) [] pos) env) Q E s := by
  refine Call_Name rfl (nm_B W hn hb hx ?_ hg hbn hk hkx hd)
  exact PyProof.Rows.callWith_type1 h he hplain
theorem CallF {a : Addr} {oc : Value} {od : Option Addr} {fd : FuncData} {osl : Array (Option Value)} (W : Wd K mg mb s.heap) (hn : nsIn K mainGlobals x = some (some (.ref a))) (ho : K.lookup a = some ⟨oc, od, .func fd, osl⟩)
    (h : wpAny M A (spliced (backTo pos (starEach (e :: rest) env))) (fun vs s₁ => Gr s s₁ ∧ wpAny M A (call (.ref a) vs) Q E s₁) E s)
    (he : starEach (e :: rest) env = (false, eval e env) :: starEach rest env := by rfl)
    (hg : env.globals = mainGlobals := by rfl) (hk : env.scope.kind = .function := by rfl) (hkx : env.kindOf x = some .globalImplicit := by rfl) (hd : (x == ("__debug__" : Str)) = false := by decide) :
    wpAny M A (eval (.Call (.Name x p) (e :: rest) [] pos) env) Q E s := by
  refine Call_Name rfl (nm_K W hn ?_ hg hk hkx hd)
  rw [he] at h ⊢
  refine callWith_function (o := ⟨oc, od, .func fd, osl⟩) (fd := fd) (evalArgs_plain ?_)
  exact wpAny_mono h (fun vs s₁ h₁ => ⟨⟨(W.kp h₁.1.kp).k _ _ ho, rfl⟩, h₁.2⟩) fun _ _ e => e
end

/-! ### sources -/
theorem isT_listiter {h : Heap} {I l : Addr} {i : Nat} (x : h.IsListIter I l i) : ∃ o, h.get? I = some o ∧ ¬ isT o := let ⟨o, e, c, _⟩ := x; ⟨o, e, not_isT_cls c⟩
theorem src_of_list {iter : Expr} {l : Addr} {items : Array Value} (hh : A.handled = none)
    (h : ∀ (E Q : Value → Shared → Prop), (∀ s₁, Gr s s₁ → s₁.heap.PlainList l items → Q (.ref l) s₁) → wpAny (model prog w) A (eval iter env) Q E s) :
    Src prog w A iter env s items.size (fun i v => items[i]? = some v) := by
  refine ⟨fun E Q hQ => h _ _ fun s₁ g pl => ?_⟩
  refine wpAny_pyIter_list pl.isList ?_
  have hlt := natlt (Heap.lt_size (pl.choose_spec))
  refine hQ _ s₁.heap.objs.size [s₁.heap.objs.size, l] [s₁.heap.objs.size] _ (g.trans (.push _ _)) (Walks.list hh _ l (Nat.ne_of_lt hlt) items) ⟨⟨_, Heap.get?_push_size _ rfl, rfl, rfl⟩, (Kp.push _ _).list pl |>.isList⟩ ?_ ?_ ?_ ?_
  · intro b hb
    rw [Heap.size_push]
    simp only [List.mem_cons, List.not_mem_nil, or_false] at hb
    rcases hb with rfl | rfl
    · exact ltA (by omega)
    · exact ltA (by omega)
  · intro b hb o e
    rw [List.mem_singleton.mp hb] at e
    obtain ⟨o', e'⟩ := g.kp.live e
    exact absurd (Heap.lt_size e') (Nat.lt_irrefl _)
  · intro i h st b hb
    simp only [List.mem_cons, List.not_mem_nil, or_false] at hb
    rcases hb with rfl | rfl
    · exact isT_listiter st.1
    · obtain ⟨o, e, c, _⟩ := st.2; exact ⟨o, e, not_isT_cls c⟩
  · intro i h st
    obtain ⟨o, e, c, _⟩ := st.1
    exact ⟨o, _, e, c, by decide⟩
theorem src_of_range {iter : Expr} {a b : Int} {n : Nat} (hh : A.handled = none) (hn : b = a + n) (ha : -(2 ^ 62) ≤ a) (hb : b < 2 ^ 62)
    (h : ∀ (E Q : Value → Shared → Prop), (∀ s₁ r t u v, Gr s s₁ → IsRange s₁.heap r a b 1 t u v → Q (.ref r) s₁) → wpAny (model prog w) A (eval iter env) Q E s) :
    Src prog w A iter env s n (fun i v => IntV v (a + i)) := by
  refine ⟨fun E Q hQ => h _ _ fun s₁ r t u v g hr => ?_⟩
  refine wpAny_pyIter_range hr (small_one ha (by omega) (by omega) hb) ?_
  have W := Walks.range (prog := prog) (w := w) (A := A) hh s₁.heap.objs.size a 1 n
  simp only [Int.mul_one] at W
  refine hQ _ s₁.heap.objs.size [s₁.heap.objs.size] [s₁.heap.objs.size] _ (g.trans (.push _ _)) W ?_ ?_ ?_ ?_ ?_
  · have e : Builtin.Range.rangeSize a b 1 = n := by rw [rangeSize_one]; split <;> omega
    rw [e]
    simpa using Heap.get?_push_size s₁.heap (o := { cls := .type "range_iterator", data := .fields #[rawInt a, rawInt n, rawInt 1] }) rfl
  · intro b hb
    rw [Heap.size_push, List.mem_singleton.mp hb]
    exact ltA (by omega)
  · intro b hb o e
    rw [List.mem_singleton.mp hb] at e
    obtain ⟨o', e'⟩ := g.kp.live e
    exact absurd (Heap.lt_size e') (Nat.lt_irrefl _)
  · intro i h st b hb
    rw [List.mem_singleton.mp hb]
    exact ⟨_, st, not_isT_cls rfl⟩
  · intro i h st
    exact ⟨_, _, st, rfl, by decide⟩

theorem boot_range : bootBuiltins "range" = some (.type "range") := by decide +kernel
theorem boot_sum : bootBuiltins "sum" = some (.builtin "sum") := by decide +kernel

/-! ### sum of a list of ints -/
theorem preSum_list (is : List Int) (j : Nat) : preSum (fun i => is.getD i 0) j = (is.take j).sum := PyProof.Rows.preSum_getD is j
theorem sum_li {l : Addr} {is : List Int} {Q : Value → Shared → Prop} (hh : A.handled = none) (hl : LI s.heap l is) (h : ∀ s' t, Gr s s' → Q (.int is.sum t) s') :
    wpAny (model prog w) A (call (.builtin "sum") [.ref l]) Q E s := by
  obtain ⟨ys, pl, pr⟩ := hl
  have hlt := natlt (Heap.lt_size (pl.choose_spec))
  refine call_sum_walkG ?_
  refine wpAny_pyIter_list pl.isList ?_
  refine ⟨s.heap.objs.size, [s.heap.objs.size, l], [s.heap.objs.size], ys.size, _, _, fun i => is.getD i 0, rfl, Walks.list (A := A.in1) hh _ l (Nat.ne_of_lt hlt) ys, ⟨⟨_, Heap.get?_push_size _ rfl, rfl, rfl⟩, (Kp.push _ _).list pl |>.isList⟩, ?_, ?_, ?_⟩
  · intro b hb
    show b < (s.heap.push _).objs.size
    rw [Heap.size_push]
    simp only [List.mem_cons, List.not_mem_nil, or_false] at hb
    rcases hb with rfl | rfl
    · exact ltA (by omega)
    · exact ltA (by omega)
  · intro i v hv
    obtain ⟨a, ha, t, rfl⟩ := Paired.get' pr i v (by simpa using hv)
    exact ⟨t, by show Value.int a t = Value.int (is.getD i 0) t; rw [List.getD_eq_getElem?_getD, ha]; rfl⟩
  · intro h' tk t' hk
    have e : preSum (fun i => is.getD i 0) ys.size = is.sum := by
      rw [preSum_list, List.take_of_length_le]
      have := pr.length; simp at this; omega
    rw [e]
    refine h _ _ (.keep fun b o e' => hk b o ?_ (Heap.get?_push_of_some _ e'))
    intro hb
    rw [List.mem_singleton.mp hb] at e'
    exact absurd (Heap.lt_size e') (Nat.lt_irrefl _)
end
end Mine
end

section
open PySem PySem.Spec PySem.Calls PySem.W PyProof.Rows
set_option Elab.async false
namespace Mine
structure Rm (n : Nat) (A : Around) : Prop where
  h : A.handled = none
  d : A.depth + n < recursionLimit
theorem Rm.le {n m : Nat} {A : Around} (x : Rm n A) (h : m ≤ n) : Rm m A := ⟨x.h, by have := x.d; omega⟩
theorem Rm.deeper {n : Nat} {A : Around} {e : Env} (x : Rm (n + 1) A) : Rm n (A.deeper e) := ⟨x.h, by have := x.d; show A.depth + 1 + n < _; omega⟩
theorem Rm.room {n : Nat} {A : Around} (x : Rm n A) : A.depth < recursionLimit := by have := x.d; omega
abbrev mkE (sc : Scope) (L : Addr) (cs : List (Str × Addr)) (q : Str) (fn : Option Addr) (cd : Value) : Env :=
  { scope := sc, locals := L, globals := mainGlobals, cells := cs, qual := q, func := fn, code := cd, frame := some L, builtins := builtinsNs }
theorem bindL_get {ko : Str → Option NameKind} : ∀ {bs : List (Str × Value)} {m : Mp} {x : Str} {v : Value}, (bs.map (·.1)).Nodup → (x, v) ∈ bs → ko x = some .local → bindL ko bs m x = some v
  | (n, u) :: r, m, x, v, hn, hm, hk => by
    unfold bindL
    rw [List.map_cons, List.nodup_cons] at hn
    rcases List.mem_cons.mp hm with e | hm
    · have e1 : n = x := (congrArg Prod.fst e).symm
      have e2 : u = v := (congrArg Prod.snd e).symm
      subst e1; subst e2
      rw [if_pos hk]
      have : ∀ (r : List (Str × Value)) (m : Mp), n ∉ r.map (·.1) → m n = some u → bindL ko r m n = some u := by
        intro r
        induction r with
        | nil => intro m _ h; exact h
        | cons z r ih =>
          intro m hz h
          rw [List.map_cons, List.mem_cons, not_or] at hz
          unfold bindL
          refine ih _ hz.2 ?_
          split
          · exact (if_neg hz.1).trans h
          · exact h
      exact this r _ hn.1 (by simp)
    · exact bindL_get hn.2 hm hk
theorem bindC_get {ko : Str → Option NameKind} : ∀ {bs : List (Str × Value)} {m : Mp} {x : Str} {v : Value}, (bs.map (·.1)).Nodup → (x, v) ∈ bs → ko x ≠ some .local → bindC ko bs m x = some v
  | (n, u) :: r, m, x, v, hn, hm, hk => by
    unfold bindC
    rw [List.map_cons, List.nodup_cons] at hn
    rcases List.mem_cons.mp hm with e | hm
    · have e1 : n = x := (congrArg Prod.fst e).symm
      have e2 : u = v := (congrArg Prod.snd e).symm
      subst e1; subst e2
      rw [if_neg hk]
      have : ∀ (r : List (Str × Value)) (m : Mp), n ∉ r.map (·.1) → m n = some u → bindC ko r m n = some u := by
        intro r
        induction r with
        | nil => intro m _ h; exact h
        | cons z r ih =>
          intro m hz h
          rw [List.map_cons, List.mem_cons, not_or] at hz
          unfold bindC
          refine ih _ hz.2 ?_
          split
          · exact h
          · exact (if_neg hz.1).trans h
      exact this r _ hn.1 (by simp)
    · exact bindC_get hn.2 hm hk
section
variable {prog : Program} {w : World} {A : Around} {E : Value → Shared → Prop} {s : Shared} {K : Frag} {mg mb : Mp} {Q : Value → Shared → Prop}
theorem call_def {f : Addr} {oc : Value} {od : Option Addr} {osl : Array (Option Value)} {name qual : Str} {params : Arguments} {body : List Stmt} {scope : Scope} {dV kV doc pm cdv ct : Value} {an : Option Addr} {vals : List Value} (binds : List (Str × Value))
    (W : Wd K mg mb s.heap) (ho : K.lookup f = some ⟨oc, od, .func (fnOf name qual params body scope dV kV doc pm an cdv ct), osl⟩) (hroom : A.depth < recursionLimit) (hcd : codeIn K cdv qual = true)
    (hbind : BindsTo s (fnOf name qual params body scope dV kV doc pm an cdv ct) ⟨vals, []⟩ binds)
    (hkind : binds.all (fun x => scope.names.lookup x.1 == some .local || (scope.names.lookup x.1 == some .cell && ((cellsFrom 0 scope.names []).lookup x.1).isSome)) = true)
    (hnb : decide ((binds.map (·.1)).Nodup) = true) (hnd : ((cellsFrom 0 scope.names []).map (·.1)).Nodup)
    (h : ∀ L s₁ q m cm, (∀ x v, (x, v) ∈ binds → scope.names.lookup x = some .local → m x = some v) → (∀ x v, (x, v) ∈ binds → scope.names.lookup x = some .cell → cm x = some v) →
      Inn s.heap L (cellsFrom (L + 1) scope.names []) m cm [] s₁.heap → Gr s s₁ → s.toks ≤ s₁.toks →
      wpAny (model prog w) (A.deeper (mkE scope L (cellsFrom (L + 1) scope.names []) q (some f) cdv)) (execs body (mkE scope L (cellsFrom (L + 1) scope.names []) q (some f) cdv)) (fun fl s' => Q (match fl with | .ret v => v | _ => .none) s') (fun _ _ => False) s₁)
    (hco : scope.isCoroutine = false := by rfl) (hgen : scope.isGenerator = false := by rfl) (hk : scope.kind = .function := by rfl) :
    wpAny (model prog w) A (call (.ref f) vals) Q E s := by
  refine call_fn (fd := fnOf name qual params body scope dV kV doc pm an cdv ct) W ho hroom hcd rfl rfl hbind ?_ hnd (fun L s₁ I g => h L s₁ _ _ _ (fun x v hm hl => bindL_get (of_decide_eq_true hnb) hm hl) (fun x v hm hl => bindC_get (of_decide_eq_true hnb) hm (by show scope.names.lookup x ≠ _; rw [hl]; decide)) I g) hco hgen hk
  intro n x hx
  have := List.all_eq_true.mp hkind x hx
  rcases Bool.or_eq_true_iff.mp this with e | e
  · exact .inl (by simpa using e)
  · have e' := Bool.and_eq_true_iff.mp e
    refine .inr ⟨by simpa using e'.1, ?_⟩
    have h1 := e'.2
    have : ∀ (l l' : List (Str × Addr)), l.map (·.1) = l'.map (·.1) → (l.lookup x.1).isSome = true → (l'.lookup x.1).isSome = true := by
      intro l
      induction l with
      | nil => intro l' e h; simp at h
      | cons a r ih =>
        intro l' e h
        cases l' with
        | nil => simp at e
        | cons b r' =>
          simp only [List.map_cons, List.cons.injEq] at e
          rw [List.lookup_cons] at h ⊢
          rw [← e.1]
          cases hx : x.1 == a.1 with
          | true => simp
          | false => rw [hx] at h; exact ih r' e.2 h
    exact this _ _ (cellsFrom_names scope.names 0 n [] [] rfl) h1
end
end Mine
end

section
open PySem PySem.Spec PySem.Calls PySem.W PyProof.Rows
set_option Elab.async false
namespace Mine
section
variable {prog : Program} {w : World} {A : Around} {s : Shared} {env cenv : Env} {C c : Addr} {oc : List (Str × Addr)} {h₀ : Heap} {x : Str} {px : Pos} {ifs : List Expr} {el : Expr} {n : Nat} {P : Nat → Value → Prop} {p : Nat → Bool} {F : Nat → Nat → Value → Heap → Prop} {tk0 : Nat}
theorem turn_local
    (tests : ∀ i v (s : Shared) m cm E, i < n → P i v → m x = some v → Inn h₀ C oc m cm [] s.heap →
      wpAny (model prog w) A (forIn ifs true fun c r => if r = true then do let ok ← isTrue c cenv (eval c cenv); pure (ForInStep.yield ok) else pure (ForInStep.yield r)) (fun ok s' => ok = p i ∧ Gr s s') E s)
    (elt : ∀ i v (s : Shared) m cm E, i < n → P i v → p i = true → m x = some v → Inn h₀ C oc m cm [] s.heap →
      wpAny (model prog w) A (eval el cenv) (fun y s' => F s.heap.objs.size i y s'.heap ∧ Gr s s') E s)
    (hC : cenv.locals = C := by rfl) (hk : cenv.scope.kind = .function := by rfl) (hx : cenv.kindOf x = some .local := by rfl) : Turn prog w A cenv C oc h₀ tk0 (.Name x px) ifs el n P p F (fun _ v m _ => m x = some v) where
  assign := fun i v s m cm E Q hi hP I hQ => by
    subst hC
    refine wpAny_assign_Name (st_L I (fun h' t I' hs' => hQ _ _ _ (.heap s h' t) I' (fun b o hb _ e => (hs'.2 b hb).trans e) (by simp [up])) hk hx)
  tests := tests
  elt := fun i v s m cm E hi hv hp hb I _ => elt i v s m cm E hi hv hp hb I
theorem turn_cell
    (tests : ∀ i v (s : Shared) m cm E, i < n → P i v → cm x = some v → Inn h₀ C oc m cm [] s.heap →
      wpAny (model prog w) A (forIn ifs true fun c r => if r = true then do let ok ← isTrue c cenv (eval c cenv); pure (ForInStep.yield ok) else pure (ForInStep.yield r)) (fun ok s' => ok = p i ∧ Gr s s') E s)
    (elt : ∀ i v (s : Shared) m cm E, i < n → P i v → p i = true → cm x = some v → Inn h₀ C oc m cm [] s.heap →
      wpAny (model prog w) A (eval el cenv) (fun y s' => F s.heap.objs.size i y s'.heap ∧ Gr s s') E s)
    (hm : (x, c) ∈ oc) (hc : cenv.cells.lookup x = some c)
    (hC : cenv.locals = C := by rfl) (hk : cenv.scope.kind = .function := by rfl) (hx : cenv.kindOf x = some .cell := by rfl) : Turn prog w A cenv C oc h₀ tk0 (.Name x px) ifs el n P p F (fun _ v _ cm => cm x = some v) where
  assign := fun i v s m cm E Q hi hP I hQ => by
    subst hC
    refine wpAny_assign_Name (st_C I hm hc (fun h' t I' hs' => hQ _ _ _ (.heap s h' t) I' (fun b o _ hb e => (hs'.2 b (fun e => hb _ hm e.symm)).trans e) (by simp [up])) hk hx)
  tests := tests
  elt := fun i v s m cm E hi hv hp hb I _ => elt i v s m cm E hi hv hp hb I
theorem turn_localP
    (tests : ∀ i v (s : Shared) m cm E, i < n → P i v → m x = some v → Inn h₀ C oc m cm [] s.heap →
      wpAny (model prog w) A (forIn ifs true fun c r => if r = true then do let ok ← isTrue c cenv (eval c cenv); pure (ForInStep.yield ok) else pure (ForInStep.yield r)) (fun ok s' => ok = p i ∧ Gr s s') E s)
    (elt : ∀ i v (s : Shared) m cm E, i < n → P i v → p i = true → m x = some v → Inn h₀ C oc m cm [] s.heap → tk0 ≤ s.toks →
      wpAny (model prog w) A (eval el cenv) (fun y s' => F s.heap.objs.size i y s'.heap ∧ Gr s s') E s)
    (hC : cenv.locals = C := by rfl) (hk : cenv.scope.kind = .function := by rfl) (hx : cenv.kindOf x = some .local := by rfl) : Turn prog w A cenv C oc h₀ tk0 (.Name x px) ifs el n P p F (fun _ v m _ => m x = some v) where
  assign := fun i v s m cm E Q hi hP I hQ => by
    subst hC
    refine wpAny_assign_Name (st_L I (fun h' t I' hs' => hQ _ _ _ (.heap s h' t) I' (fun b o hb _ e => (hs'.2 b hb).trans e) (by simp [up])) hk hx)
  tests := tests
  elt := elt
theorem turn_cellP
    (tests : ∀ i v (s : Shared) m cm E, i < n → P i v → cm x = some v → Inn h₀ C oc m cm [] s.heap →
      wpAny (model prog w) A (forIn ifs true fun c r => if r = true then do let ok ← isTrue c cenv (eval c cenv); pure (ForInStep.yield ok) else pure (ForInStep.yield r)) (fun ok s' => ok = p i ∧ Gr s s') E s)
    (elt : ∀ i v (s : Shared) m cm E, i < n → P i v → p i = true → cm x = some v → Inn h₀ C oc m cm [] s.heap → tk0 ≤ s.toks →
      wpAny (model prog w) A (eval el cenv) (fun y s' => F s.heap.objs.size i y s'.heap ∧ Gr s s') E s)
    (hm : (x, c) ∈ oc) (hc : cenv.cells.lookup x = some c)
    (hC : cenv.locals = C := by rfl) (hk : cenv.scope.kind = .function := by rfl) (hx : cenv.kindOf x = some .cell := by rfl) : Turn prog w A cenv C oc h₀ tk0 (.Name x px) ifs el n P p F (fun _ v _ cm => cm x = some v) where
  assign := fun i v s m cm E Q hi hP I hQ => by
    subst hC
    refine wpAny_assign_Name (st_C I hm hc (fun h' t I' hs' => hQ _ _ _ (.heap s h' t) I' (fun b o _ hb e => (hs'.2 b (fun e => hb _ hm e.symm)).trans e) (by simp [up])) hk hx)
  tests := tests
  elt := elt
/-- no test -/
theorem tests_no {E : Value → Shared → Prop} {i : Nat} : wpAny (model prog w) A (forIn ([] : List Expr) true fun c r => if r = true then do let ok ← isTrue c cenv (eval c cenv); pure (ForInStep.yield ok) else pure (ForInStep.yield r)) (fun ok s' => ok = (fun _ : Nat => true) i ∧ Gr s s') E s :=
  wpAny_tests_nil ⟨rfl, .refl _⟩

variable {K : Frag} {mg mb : Mp}
theorem src_range1 {k : Nat} {p p' pos : Pos} {b : Int} (hh : A.handled = none) (W : Wd K mg mb s.heap) (hn : nsIn K mainGlobals "range" = some none) (hb : b = n) (hb2 : b < 2 ^ 62)
    (hg : env.globals = mainGlobals := by rfl) (hbn : env.builtins = builtinsNs := by rfl) (hk : env.scope.kind = .function := by rfl) (hkx : env.kindOf "range" = some .globalImplicit := by rfl) :
    Src prog w A (.Call (.Name "range" p) [.Constant (.int b) k p'] [] pos) env s n (fun i v => IntV v i) := by
  have := src_of_range (prog := prog) (w := w) (A := A) (env := env) (s := s) (iter := .Call (.Name "range" p) [.Constant (.int b) k p'] [] pos) (a := 0) (b := b) (n := n) hh (by omega) (by decide) hb2 (fun E Q h => by
    refine CallT W hn boot_range (by decide) (wpAny_items_cons (wpAny_Constant_int (wpAny_items_nil (call_range_1 (h _ _ _ _ _ ?_ (IsRange.new ..)))))) rfl rfl hg hbn hk hkx
    exact .keep fun _ _ e => Heap.get?_push_of_some _ e)
  simpa using this
end
end Mine
namespace Mine
section
variable {prog : Program} {w : World} {A : Around} {E : Value → Shared → Prop} {s : Shared} {env : Env} {ve se : Expr} {pos : Pos} {Q : Value → Shared → Prop}
theorem sub_gen {M : Model} (h : wpAny M A (eval ve env) (fun o s₁ => wpAny M A (eval se env) (fun i s₂ => ∃ T id, typeLookup (.type T) "__getitem__" = pure (some (.builtin id)) ∧ s₂.TypeIs o T ∧
      wpAny M A (getItem o i) (fun r s₃ => wpAny M A (letTemporaryGo ve o r) (fun _ s₄ => Q r s₄) E s₃) E s₂) E s₁) E s)
    (hs : ∀ o i, subscripted se false o i = operate [o, i] (getItem o i)) : wpAny M A (eval (.Subscript ve se pos) env) Q E s := by
  rw [eval_Subscript]
  refine wpAny_bind (wpAny_mono h (fun o s₁ h₁ => wpAny_bind (wpAny_holding (wpAny_mono h₁ (fun i s₂ h₂ => wpAny_bind (wpAny_standAt ?_)) fun _ _ x => x))) fun _ _ x => x)
  obtain ⟨T, id, hl, hT, hg⟩ := h₂
  refine wpAny_bind ?_
  rw [getitemInPython_of_ne hT.not_modules]
  refine wpAny_bind (wpAny_specialOf hT hl ?_)
  have fin : wpAny M A (operate [o, i] (getItem o i)) (fun r s₃ => wpAny M A (letTemporaryGo ve o r >>= fun _ => pure r) Q E s₃) E s₂ :=
    wpAny_operating (wpAny_mono hg (fun r s₃ h₃ => wpAny_bind (wpAny_mono h₃ (fun _ _ q => wpAny_pure q) fun _ _ x => x)) fun _ _ x => x)
  refine wpAny_pure ?_
  show wpAny M A (subscripted se false o i >>= _) Q E s₂
  rw [hs]
  exact wpAny_bind fin
theorem sub_list (h : wpAny (model prog w) A (eval ve env) (fun o s₁ => wpAny (model prog w) A (eval se env) (fun i s₂ => ∃ l ys k t v, o = .ref l ∧ i = .int k t ∧ s₂.heap.PlainList l ys ∧ 0 ≤ k ∧ k < 2 ^ 63 ∧ ys[k.toNat]? = some v ∧ Q v s₂) E s₁) E s)
    (hs : ∀ o i, subscripted se false o i = operate [o, i] (getItem o i) := by intro _ _; rfl) : wpAny (model prog w) A (eval (.Subscript ve se pos) env) Q E s := by
  refine sub_gen (wpAny_mono h (fun o s₁ h₁ => wpAny_mono h₁ (fun i s₂ h₂ => ?_) fun _ _ x => x) fun _ _ x => x) hs
  obtain ⟨l, ys, k, t, v, rfl, rfl, pl, h0, hfit, hx, q⟩ := h₂
  exact ⟨_, _, slot_list_getitem.lookup, pl.isList.typeIs, wpAny_getItem_list pl.isList h0 hfit hx (wpAny_letTemporaryGo q)⟩
/-- an int out of a list of ints -/
theorem sub_li (h : wpAny (model prog w) A (eval ve env) (fun o s₁ => wpAny (model prog w) A (eval se env) (fun i s₂ => ∃ l is k t, o = .ref l ∧ i = .int k t ∧ LI s₂.heap l is ∧ 0 ≤ k ∧ k < is.length ∧ is.length < 2 ^ 63 ∧ ∀ t', Q (.int (is.getD k.toNat 0) t') s₂) E s₁) E s)
    (hs : ∀ o i, subscripted se false o i = operate [o, i] (getItem o i) := by intro _ _; rfl) : wpAny (model prog w) A (eval (.Subscript ve se pos) env) Q E s := by
  refine sub_list (wpAny_mono h (fun o s₁ h₁ => wpAny_mono h₁ (fun i s₂ h₂ => ?_) fun _ _ x => x) fun _ _ x => x) hs
  obtain ⟨l, is, k, t, rfl, rfl, ⟨ys, pl, pr⟩, h0, hl, hlen, q⟩ := h₂
  have hk : is[k.toNat]? = some (is.getD k.toNat 0) := by
    rw [List.getD_eq_getElem?_getD, List.getElem?_eq_getElem (by omega)]; rfl
  obtain ⟨v, hv, t', rfl⟩ := Paired.get pr _ _ hk
  exact ⟨l, ys, k, t, _, rfl, rfl, pl, h0, by omega, by simpa using hv, q t'⟩
end
end Mine
end

section
open PySem PySem.Spec PySem.Calls PySem.W PyProof.Rows
set_option Elab.async false
namespace Mine
/-- the state s has come of s₀ by growth; its heap is h -/
structure At (s₀ : Shared) (h : Heap) (s : Shared) : Prop where
  gr : Gr s₀ s
  hp : s.heap = h
theorem At.here (s : Shared) : At s s.heap s := ⟨.refl s, rfl⟩
theorem At.to {s₀ s s' : Shared} {h : Heap} (a : At s₀ h s) (g : Gr s s') : At s₀ s'.heap s' := ⟨a.gr.trans g, rfl⟩
theorem At.kp {s₀ s s' : Shared} {h : Heap} (a : At s₀ h s) (g : Gr s s') : Kp h s'.heap := a.hp ▸ g.kp
theorem At.kp0 {s₀ s : Shared} {h : Heap} (a : At s₀ h s) : Kp s₀.heap h := a.hp ▸ a.gr.kp
section
variable {prog : Program} {w : World} {A : Around} {E : Value → Shared → Prop} {s s₀ : Shared} {h : Heap} {env : Env} {Q : Value → Shared → Prop} {a b : Int} {t u : Tok} {K : Frag} {mg mb m : Mp} {x : Str} {v : Value} {c : Addr} {pos p : Pos}
theorem cInt {M : Model} {i k pos} (z : At s₀ h s) (q : ∀ t s', At s₀ h s' → Q (.int i t) s') : wpAny M A (eval (.Constant (.int i) k pos) env) Q E s := wpAny_Constant_int (q _ _ ⟨z.gr.trans (.tok _ _), z.hp⟩)
theorem cStr {M : Model} {x : Str} {k pos} (z : At s₀ h s) (q : ∀ t s', At s₀ h s' → Q (.str x t) s') : wpAny M A (eval (.Constant (.str x) k pos) env) Q E s := wpAny_Constant_str (q _ _ ⟨z.gr.trans (.tok _ _), z.hp⟩)
theorem addI (z : At s₀ h s) (q : ∀ t s', At s₀ h s' → Q (.int (a + b) t) s') : wpAny (model prog w) A (binaryOp .Add (.int a t) (.int b u)) Q E s := add_int (q _ _ ⟨z.gr.trans (.tok _ _), z.hp⟩)
theorem subI (z : At s₀ h s) (q : ∀ t s', At s₀ h s' → Q (.int (a - b) t) s') : wpAny (model prog w) A (binaryOp .Sub (.int a t) (.int b u)) Q E s := sub_int (q _ _ ⟨z.gr.trans (.tok _ _), z.hp⟩)
theorem mulI (z : At s₀ h s) (hm : IntMulOk a b) (q : ∀ t s', At s₀ h s' → Q (.int (a * b) t) s') : wpAny (model prog w) A (binaryOp .Mult (.int a t) (.int b u)) Q E s := mul_int (q _ _ ⟨z.gr.trans (.tok _ _), z.hp⟩) hm
theorem powI (z : At s₀ h s) (hn : 0 ≤ b) (hn2 : b ≤ 1000000) (ha : a.natAbs < 2 ^ 64) (q : ∀ t s', At s₀ h s' → Q (.int (a ^ b.toNat) t) s') : wpAny (model prog w) A (binaryOp .Pow (.int a t) (.int b u)) Q E s := pow_int_small hn hn2 ha (q _ _ ⟨z.gr.trans (.tok _ _), z.hp⟩)
theorem fdivI (z : At s₀ h s) (hb : b ≠ 0) (hs : b.natAbs < 1073741824) (q : ∀ t s', At s₀ h s' → Q (.int (a.fdiv b) t) s') : wpAny (model prog w) A (binaryOp .FloorDiv (.int a t) (.int b u)) Q E s := floordiv_int (hp := .inl (PyProof.noPylong_small hs)) hb (q _ _ ⟨z.gr.trans (.tok _ _), z.hp⟩)
theorem modI (z : At s₀ h s) (hb : b ≠ 0) (q : ∀ t s', At s₀ h s' → Q (.int (a.fmod b) t) s') : wpAny (model prog w) A (binaryOp .Mod (.int a t) (.int b u)) Q E s := mod_int' hb (q _ _ ⟨z.gr.trans (.tok _ _), z.hp⟩)
theorem andI (z : At s₀ h s) (q : ∀ t s', At s₀ h s' → Q (.int (Builtin.bitAnd a b) t) s') : wpAny (model prog w) A (binaryOp .BitAnd (.int a t) (.int b u)) Q E s := and_int (q _ _ ⟨z.gr.trans (.tok _ _), z.hp⟩)
theorem xorI (z : At s₀ h s) (q : ∀ t s', At s₀ h s' → Q (.int (Builtin.bitXor a b) t) s') : wpAny (model prog w) A (binaryOp .BitXor (.int a t) (.int b u)) Q E s := xor_int (q _ _ ⟨z.gr.trans (.tok _ _), z.hp⟩)
theorem negI (z : At s₀ h s) (q : ∀ t s', At s₀ h s' → Q (.int (-a) t) s') : wpAny (model prog w) A (unaryOp .USub (.int a t)) Q E s := neg_int (q _ _ ⟨z.gr.trans (.tok _ _), z.hp⟩)
theorem mkList {M : Model} {elts : List Expr} {pos : Pos}
    (q : wpAny M A (spliced (backTo pos (starEach elts env))) (fun vs s₁ => vs.length ≤ sizeLine ∧ ∃ s₀ h, At s₀ h s₁ ∧ ∀ a h' s', At s₀ h' s' → Kp h h' → (∀ o, h.get? a ≠ some o) → h'.PlainList a vs.toArray → Q (.ref a) s') E s) : wpAny M A (eval (.List elts pos) env) Q E s :=
  wpAny_List (wpAny_mono q (fun _ s₁ h₁ => by
    obtain ⟨h1, s₀, h, z, q⟩ := h₁
    have hz := z.hp
    subst hz
    exact ⟨h1, q _ _ _ ⟨z.gr.trans (.push _ _), rfl⟩ (.push _ _) (fun _ e => absurd (Heap.lt_size e) (Nat.lt_irrefl _)) ⟨0, Heap.get?_push_size _ rfl⟩⟩) fun _ _ e => e)
theorem mkTup {M : Model} {elts : List Expr} {k : Nat} {pos : Pos}
    (q : wpAny M A (spliced (backTo pos (starEach elts env))) (fun vs s₁ => vs.length ≤ sizeLine ∧ ∃ s₀ h, At s₀ h s₁ ∧ ∀ h' s', At s₀ h' s' → Kp h h' → h'.get? h.objs.size = some (tup vs.toArray) → Q (.ref h.objs.size) s') E s) : wpAny M A (eval (.Tuple elts k pos) env) Q E s :=
  wpAny_Tuple (wpAny_mono q (fun _ s₁ h₁ => by
    obtain ⟨h1, s₀, h, z, q⟩ := h₁
    have hz := z.hp
    subst hz
    exact ⟨h1, q _ _ ⟨z.gr.trans (.push _ _), rfl⟩ (.push _ _) (Heap.get?_push_size _ rfl)⟩) fun _ _ e => e)
theorem nL {M : Model} (z : At s₀ h s) (I : h.Ns env.locals m) (hv : m x = some v) (q : Q v s)
    (hk : env.scope.kind = .function := by rfl) (hx : env.kindOf x = some .local := by rfl) (hd : (x == ("__debug__" : Str)) = false := by decide) : wpAny M A (eval (.Name x pos) env) Q E s :=
  nm_L (z.hp ▸ I) hv q hk hx hd
theorem nC {M : Model} (z : At s₀ h s) (I : h.IsCell c (some v)) (hc : env.cells.lookup x = some c) (q : Q v s)
    (hk : env.scope.kind = .function := by rfl) (hx : env.kindOf x = some .cell := by rfl) (hd : (x == ("__debug__" : Str)) = false := by decide) : wpAny M A (eval (.Name x pos) env) Q E s :=
  nm_C (z.hp ▸ I) hc q hk hx hd
theorem cB {M : Model} {e : Expr} {rest : List Expr} {id : String} (z : At s₀ h s) (W : Wd K mg mb h) (hn : nsIn K mainGlobals x = some none) (hb : bootBuiltins x = some (.builtin id)) (hx : x ≠ "__name__")
    (q : wpAny M A (spliced (backTo pos (starEach (e :: rest) env))) (fun vs s₁ => wpAny M A (call (.builtin id) vs) Q E s₁) E s)
    (he : starEach (e :: rest) env = (false, eval e env) :: starEach rest env := by rfl) (hplain : (backTo pos (starEach rest env)).any (·.1) = false := by rfl)
    (hg : env.globals = mainGlobals := by rfl) (hbn : env.builtins = builtinsNs := by rfl) (hk : env.scope.kind = .function := by rfl) (hkx : env.kindOf x = some .globalImplicit := by rfl) (hd : (x == ("__debug__" : Str)) = false := by decide) :
    wpAny M A (eval (.Call (.Name x p) (e :: rest) [] pos) env) Q E s := CallB (z.hp ▸ W) hn hb hx q he hplain hg hbn hk hkx hd
theorem cKB {M : Model} {e : Expr} {rest : List Expr} {id : String} (z : At s₀ h s) (W : Wd K mg mb h) (hn : nsIn K mainGlobals x = some (some (.builtin id)))
    (q : wpAny M A (spliced (backTo pos (starEach (e :: rest) env))) (fun vs s₁ => wpAny M A (call (.builtin id) vs) Q E s₁) E s)
    (he : starEach (e :: rest) env = (false, eval e env) :: starEach rest env := by rfl) (hplain : (backTo pos (starEach rest env)).any (·.1) = false := by rfl)
    (hg : env.globals = mainGlobals := by rfl) (hk : env.scope.kind = .function := by rfl) (hkx : env.kindOf x = some .globalImplicit := by rfl) (hd : (x == ("__debug__" : Str)) = false := by decide) :
    wpAny M A (eval (.Call (.Name x p) (e :: rest) [] pos) env) Q E s := CallKB (z.hp ▸ W) hn q he hplain hg hk hkx hd
theorem cT {M : Model} {e : Expr} {rest : List Expr} {T : String} (z : At s₀ h s) (W : Wd K mg mb h) (hn : nsIn K mainGlobals x = some none) (hb : bootBuiltins x = some (.type T)) (hx : x ≠ "__name__")
    (q : wpAny M A (spliced (backTo pos (starEach (e :: rest) env))) (fun vs s₁ => wpAny M A (call (.type T) vs) Q E s₁) E s)
    (he : starEach (e :: rest) env = (false, eval e env) :: starEach rest env := by rfl) (hplain : (backTo pos (starEach rest env)).any (·.1) = false := by rfl)
    (hg : env.globals = mainGlobals := by rfl) (hbn : env.builtins = builtinsNs := by rfl) (hk : env.scope.kind = .function := by rfl) (hkx : env.kindOf x = some .globalImplicit := by rfl) (hd : (x == ("__debug__" : Str)) = false := by decide) :
    wpAny M A (eval (.Call (.Name x p) (e :: rest) [] pos) env) Q E s := CallT (z.hp ▸ W) hn hb hx q he hplain hg hbn hk hkx hd
theorem cF {M : Model} {e : Expr} {rest : List Expr} {f : Addr} {oc : Value} {od : Option Addr} {fd : FuncData} {osl : Array (Option Value)} (z : At s₀ h s) (W : Wd K mg mb h) (hn : nsIn K mainGlobals x = some (some (.ref f))) (ho : K.lookup f = some ⟨oc, od, .func fd, osl⟩)
    (q : wpAny M A (spliced (backTo pos (starEach (e :: rest) env))) (fun vs s₁ => ∃ h', At s₀ h' s₁ ∧ Kp h h' ∧ wpAny M A (call (.ref f) vs) Q E s₁) E s)
    (he : starEach (e :: rest) env = (false, eval e env) :: starEach rest env := by rfl)
    (hg : env.globals = mainGlobals := by rfl) (hk : env.scope.kind = .function := by rfl) (hkx : env.kindOf x = some .globalImplicit := by rfl) (hd : (x == ("__debug__" : Str)) = false := by decide) :
    wpAny M A (eval (.Call (.Name x p) (e :: rest) [] pos) env) Q E s := by
  refine Call_Name rfl (nm_K (z.hp ▸ W) hn ?_ hg hk hkx hd)
  rw [he] at q ⊢
  refine callWith_function (o := ⟨oc, od, .func fd, osl⟩) (fd := fd) (evalArgs_plain ?_)
  exact wpAny_mono q (fun vs s₁ h₁ => by
    obtain ⟨h', z', k, q'⟩ := h₁
    exact ⟨⟨z'.hp ▸ (W.kp k).k _ _ ho, rfl⟩, q'⟩) fun _ _ e => e
theorem cFp {M : Model} {e : Expr} {rest : List Expr} {f : Addr} {oc : Value} {od : Option Addr} {fd : FuncData} {osl : Array (Option Value)} (z : At s₀ h s) (W : Wd K mg mb h) (hn : nsIn K mainGlobals x = some (some (.ref f))) (ho : K.lookup f = some ⟨oc, od, .func fd, osl⟩)
    (q : wpAny M A (spliced (backTo pos (starEach (e :: rest) env))) (fun vs s₁ => s.toks ≤ s₁.toks → ∃ h', At s₀ h' s₁ ∧ Kp h h' ∧ wpAny M A (call (.ref f) vs) Q E s₁) E s)
    (he : starEach (e :: rest) env = (false, eval e env) :: starEach rest env := by rfl)
    (hg : env.globals = mainGlobals := by rfl) (hk : env.scope.kind = .function := by rfl) (hkx : env.kindOf x = some .globalImplicit := by rfl) (hd : (x == ("__debug__" : Str)) = false := by decide) :
    wpAny M A (eval (.Call (.Name x p) (e :: rest) [] pos) env) Q E s := by
  refine Call_Name rfl (nm_K (z.hp ▸ W) hn ?_ hg hk hkx hd)
  rw [he] at q ⊢
  refine callWith_function (o := ⟨oc, od, .func fd, osl⟩) (fd := fd) (evalArgs_plain ?_)
  refine wpAny_up (wpAny_mono q (fun vs s₁ h₁ hup => by
    obtain ⟨h', z', k, q'⟩ := h₁ hup
    exact ⟨⟨z'.hp ▸ (W.kp k).k _ _ ho, rfl⟩, q'⟩) fun _ _ e _ => e)
theorem cmp {elt target iter : Expr} {ifs : List Expr} {scope : Scope} {cl : List (Str × Addr)} {pos : Pos} {n : Nat} {P : Nat → Value → Prop} {p : Nat → Bool} {F : Nat → Nat → Value → Heap → Prop} {Bd : Nat → Value → Mp → Mp → Prop}
    (z : At s₀ h s) (S : Src prog w A iter env s n P) (hsz : n ≤ sizeLine)
    (hT : ∀ h₀ C, Kp h h₀ → (∀ o, h.get? C ≠ some o) → Turn prog w A (compEnvD scope cl C env) C (cellsFrom (C + 1) scope.names []) h₀ s.toks target ifs elt n P p F Bd)
    (hF : ∀ k k' i y h h', k ≤ k' → (∀ b o, k ≤ b → ¬ isT o → h.get? b = some o → h'.get? b = some o) → F k' i y h → F k i y h')
    (hQ : ∀ D k h' s' ys, At s₀ h' s' → Kp h h' → (∀ o, h.get? D ≠ some o) → h'.PlainList D ys → Paired (fun i y => F k i y h') ((List.range n).filter p) ys.toList → Q (.ref D) s')
    (hclos : closureFor scope env = pure cl) (hnames : ∀ x ∈ scope.names, x.2 = .local → scope.names.lookup x.1 = some .local) (hnd : ((cellsFrom 0 scope.names []).map (·.1)).Nodup)
    (hkind : scope.kind = .function := by rfl) (hs : ∀ x, foldedSetIterable iter env x = pure x := by intro _; rfl) :
    wpAny (model prog w) A (eval (.ListComp elt [⟨target, iter, ifs, 0⟩] scope pos) env) Q E s := by
  have hz := z.hp
  subst hz
  exact comp_src S hsz hT hF (fun D k s' ys g hD pl pr => hQ D k _ _ ys (z.to g) g.kp hD pl pr) hclos hnames hnd hkind hs
theorem sRange {n k : Nat} {p p' pos : Pos} {b : Int} (z : At s₀ h s) (hh : A.handled = none) (W : Wd K mg mb h) (hn : nsIn K mainGlobals "range" = some none) (hb : b = n) (hb2 : b < 2 ^ 62)
    (hg : env.globals = mainGlobals := by rfl) (hbn : env.builtins = builtinsNs := by rfl) (hk : env.scope.kind = .function := by rfl) (hkx : env.kindOf "range" = some .globalImplicit := by rfl) :
    Src prog w A (.Call (.Name "range" p) [.Constant (.int b) k p'] [] pos) env s n (fun i v => IntV v i) := src_range1 hh (z.hp ▸ W) hn hb hb2 hg hbn hk hkx
/-- an int out of a list of ints -/
theorem sLI {ve se : Expr} (q : wpAny (model prog w) A (eval ve env) (fun o s₁ => wpAny (model prog w) A (eval se env) (fun i s₂ => ∃ s₀ h l is k t, At s₀ h s₂ ∧ o = .ref l ∧ i = .int k t ∧ LI h l is ∧ 0 ≤ k ∧ k < is.length ∧ is.length < 2 ^ 63 ∧ ∀ t', Q (.int (is.getD k.toNat 0) t') s₂) E s₁) E s)
    (hs : ∀ o i, subscripted se false o i = operate [o, i] (getItem o i) := by intro _ _; rfl) : wpAny (model prog w) A (eval (.Subscript ve se pos) env) Q E s := by
  refine sub_li (wpAny_mono q (fun o s₁ h₁ => wpAny_mono h₁ (fun i s₂ h₂ => ?_) fun _ _ x => x) fun _ _ x => x) hs
  obtain ⟨s₀, h, l, is, k, t, z, rfl, rfl, li, r⟩ := h₂
  exact ⟨l, is, k, t, rfl, rfl, z.hp ▸ li, r⟩
theorem sumLI {l : Addr} {is : List Int} (z : At s₀ h s) (hh : A.handled = none) (hl : LI h l is) (q : ∀ h' s' t, At s₀ h' s' → Kp h h' → Q (.int is.sum t) s') : wpAny (model prog w) A (call (.builtin "sum") [.ref l]) Q E s :=
  sum_li hh (z.hp ▸ hl) fun _ _ g => q _ _ _ (z.to g) (z.kp g)
theorem cD {f : Addr} {oc : Value} {od : Option Addr} {osl : Array (Option Value)} {name qual : Str} {params : Arguments} {body : List Stmt} {scope : Scope} {dV kV doc pm cdv ct : Value} {an : Option Addr} {vals : List Value} (binds : List (Str × Value))
    (z : At s₀ h s) (W : Wd K mg mb h) (ho : K.lookup f = some ⟨oc, od, .func (fnOf name qual params body scope dV kV doc pm an cdv ct), osl⟩) {n : Nat} (hA : Rm (n + 1) A) (hcd : codeIn K cdv qual = true)
    (hbind : BindsTo s (fnOf name qual params body scope dV kV doc pm an cdv ct) ⟨vals, []⟩ binds)
    (hkind : binds.all (fun x => scope.names.lookup x.1 == some .local || (scope.names.lookup x.1 == some .cell && ((cellsFrom 0 scope.names []).lookup x.1).isSome)) = true)
    (hnb : decide ((binds.map (·.1)).Nodup) = true) (hnd : ((cellsFrom 0 scope.names []).map (·.1)).Nodup)
    (q : ∀ L h₁ s₁ q m cm A', Rm n A' → (∀ x v, (x, v) ∈ binds → scope.names.lookup x = some .local → m x = some v) → (∀ x v, (x, v) ∈ binds → scope.names.lookup x = some .cell → cm x = some v) →
      Inn h L (cellsFrom (L + 1) scope.names []) m cm [] h₁ → At s₀ h₁ s₁ → Kp h h₁ →
      wpAny (model prog w) A' (execs body (mkE scope L (cellsFrom (L + 1) scope.names []) q (some f) cdv)) (fun fl s' => Q (match fl with | .ret v => v | _ => .none) s') (fun _ _ => False) s₁)
    (hco : scope.isCoroutine = false := by rfl) (hgen : scope.isGenerator = false := by rfl) (hk : scope.kind = .function := by rfl) :
    wpAny (model prog w) A (call (.ref f) vals) Q E s := by
  have hz := z.hp
  subst hz
  exact call_def binds W ho hA.room hcd hbind hkind hnb hnd (fun L s₁ qu m cm hm hcm I g _ => q L _ s₁ qu m cm _ hA.deeper hm hcm I (z.to g) g.kp) hco hgen hk
theorem cDp {f : Addr} {oc : Value} {od : Option Addr} {osl : Array (Option Value)} {name qual : Str} {params : Arguments} {body : List Stmt} {scope : Scope} {dV kV doc pm cdv ct : Value} {an : Option Addr} {vals : List Value} (binds : List (Str × Value))
    (z : At s₀ h s) (W : Wd K mg mb h) (ho : K.lookup f = some ⟨oc, od, .func (fnOf name qual params body scope dV kV doc pm an cdv ct), osl⟩) {n : Nat} (hA : Rm (n + 1) A) (hcd : codeIn K cdv qual = true)
    (hbind : BindsTo s (fnOf name qual params body scope dV kV doc pm an cdv ct) ⟨vals, []⟩ binds)
    (hkind : binds.all (fun x => scope.names.lookup x.1 == some .local || (scope.names.lookup x.1 == some .cell && ((cellsFrom 0 scope.names []).lookup x.1).isSome)) = true)
    (hnb : decide ((binds.map (·.1)).Nodup) = true) (hnd : ((cellsFrom 0 scope.names []).map (·.1)).Nodup)
    (q : ∀ L h₁ s₁ q m cm A', Rm n A' → (∀ x v, (x, v) ∈ binds → scope.names.lookup x = some .local → m x = some v) → (∀ x v, (x, v) ∈ binds → scope.names.lookup x = some .cell → cm x = some v) →
      Inn h L (cellsFrom (L + 1) scope.names []) m cm [] h₁ → At s₀ h₁ s₁ → Kp h h₁ → s.toks ≤ s₁.toks →
      wpAny (model prog w) A' (execs body (mkE scope L (cellsFrom (L + 1) scope.names []) q (some f) cdv)) (fun fl s' => Q (match fl with | .ret v => v | _ => .none) s') (fun _ _ => False) s₁)
    (hco : scope.isCoroutine = false := by rfl) (hgen : scope.isGenerator = false := by rfl) (hk : scope.kind = .function := by rfl) :
    wpAny (model prog w) A (call (.ref f) vals) Q E s := by
  have hz := z.hp
  subst hz
  exact call_def binds W ho hA.room hcd hbind hkind hnb hnd (fun L s₁ qu m cm hm hcm I g hup => q L _ s₁ qu m cm _ hA.deeper hm hcm I (z.to g) g.kp hup) hco hgen hk
end
end Mine
end

section
open PySem PySem.Spec PySem.Calls PySem.W PyProof.Rows
set_option Elab.async false
namespace Mine
theorem Inn.lose {h₀ h h' : Heap} {L : Addr} {oc : List (Str × Addr)} {m cm : Mp} {l1 l2 : List (Addr × Obj)} {a : Addr} {o : Obj} (x : Inn h₀ L oc m cm (l1 ++ (a, o) :: l2) h) (hk : ∀ b ob, b ≠ a → h.get? b = some ob → h'.get? b = some ob) :
    Inn h₀ L oc m cm (l1 ++ l2) h' := by
  have z := x.led (a, o) (List.mem_append_right _ (.head _))
  have u := x.uniq
  rw [List.pairwise_append] at u
  obtain ⟨u1, u2, u3⟩ := u
  obtain ⟨u4, u5⟩ := List.pairwise_cons.mp u2
  refine ⟨x.ns.at' fun ob eb => hk L ob (Ne.symm z.2.2.1) eb, fun b ob eb => ?_, x.above, fun q hq => ?_, x.cnew, x.apart, x.names, fun p hp => ?_, ?_⟩
  · have ne : b ≠ a := by rintro rfl; exact z.2.2.2.2 ob eb
    rcases x.keep b ob eb with e1 | ⟨ps, more, rfl, e1⟩
    · exact .inl (hk b _ ne e1)
    · exact .inr ⟨ps, more, rfl, hk b _ ne e1⟩
  · obtain ⟨ob, hob, hd⟩ := x.cell q hq
    exact ⟨ob, hk _ ob (z.2.2.2.1 q hq) hob, hd⟩
  · rcases List.mem_append.mp hp with hp | hp
    · have y := x.led p (List.mem_append_left _ hp)
      exact ⟨hk _ _ (u3 p hp _ (.head _)) y.1, y.2⟩
    · have y := x.led p (List.mem_append_right _ (.tail _ hp))
      exact ⟨hk _ _ (Ne.symm (u4 p hp)) y.1, y.2⟩
  · rw [List.pairwise_append]
    exact ⟨u1, u5, fun p hp q hq => u3 p hp q (.tail _ hq)⟩
section
variable {prog : Program} {w : World} {A : Around} {E : Value → Shared → Prop} {s : Shared} {env : Env}
theorem for_anyP {target : Expr} {it : Value} {body orelse : List Stmt} {n : Nat} {R : Result → Shared → Prop} {J : Nat → Heap → Prop} {B : Nat → Value → Heap → Prop} {JD Fin : Heap → Prop}
    (hstep : ∀ i (s : Shared) (E : Value → Shared → Prop) (Q : Value → Shared → Prop), i < n → J i s.heap → (∀ v s', Sm s s' → B i v s'.heap → Q v s') →
      wpAny (model prog w) A (pyNext it) (fun r s₁ => match r with | none => False | some v => wpAny (model prog w) A (letOwnedTupleGo target it v) (fun _ s₂ => wpAny (model prog w) A (assign target env v) (fun _ s₃ => Q v s₃) E s₂) E s₁) E s)
    (hdone : ∀ (s : Shared) (E : Value → Shared → Prop) (Q : Shared → Prop), J n s.heap → (∀ s', Sm s s' → JD s'.heap → Q s') → wpAny (model prog w) A (pyNext it) (fun r s₁ => r = none ∧ Q s₁) E s)
    (hbody : ∀ i v (s' : Shared) (E : Value → Shared → Prop), i < n → B i v s'.heap → s.toks ≤ s'.toks → wpAny (model prog w) A (execs body env) (fun f s'' => Sm s' s'' ∧ match f with | .next | .cont => J (i + 1) s''.heap | .brk => Fin s''.heap | .ret _ => False) E s')
    (helse : ∀ (s : Shared) (E : Value → Shared → Prop), JD s.heap → wpAny (model prog w) A (execs orelse env) (fun f s' => f = .next ∧ Sm s s' ∧ Fin s'.heap) E s)
    (h0 : J 0 s.heap) (hR : ∀ s', Sm s s' → Fin s'.heap → R (.ok .next) s') : codeAny (model prog w) A (.forLoop target it body orelse env) R s := by
  refine codeAny_forLoop_any (fun k s' => ∃ i, i ≤ n ∧ k = n + 1 - i ∧ Sm s s' ∧ J i s'.heap ∧ s.toks ≤ s'.toks) ?_ (n + 1) ⟨0, Nat.zero_le _, rfl, .refl s, h0, Nat.le_refl _⟩
  rintro k s' ⟨i, hi, rfl, sm, hJ, htk⟩
  by_cases hlt : i < n
  · refine wpAny_up (wpAny_mono (hstep i s' _ (fun v s₃ => s'.toks ≤ s₃.toks → wpAny (model prog w) A (execs body env) (fun f s₃ => match f with
      | .next | .cont => ∃ m, m < n + 1 - i ∧ ∃ i, i ≤ n ∧ m = n + 1 - i ∧ Sm s s₃ ∧ J i s₃.heap ∧ s.toks ≤ s₃.toks
      | .brk => R (.ok .next) s₃
      | .ret v => R (.ok (.ret v)) s₃) (notedBy (model prog w) A env fun e s' => R (.error e) s') s₃) hlt hJ fun v s₃ sm₃ hB hup₃ => ?_) (fun r s₁ h₁ hup₁ => ?_) fun _ _ e _ => e)
    rotate_left
    · cases r with
      | none => exact h₁.elim
      | some v => exact wpAny_up (wpAny_mono h₁ (fun _ s₂ h₂ hup₂ => wpAny_up (wpAny_mono h₂ (fun _ s₄ h₄ hup₄ => h₄ (Nat.le_trans (Nat.le_trans hup₁ hup₂) hup₄)) fun _ _ e _ => e)) fun _ _ e _ => e)
    · have htk3 := Nat.le_trans htk hup₃
      refine wpAny_up (wpAny_mono (hbody i v s₃ _ hlt hB htk3) (fun f s₄ h₄ hup₄ => ?_) fun _ _ e _ => e)
      obtain ⟨sm₄, h₄⟩ := h₄
      cases f with
      | next => exact ⟨n + 1 - (i + 1), by omega, i + 1, hlt, rfl, (sm.trans sm₃).trans sm₄, h₄, Nat.le_trans htk3 hup₄⟩
      | cont => exact ⟨n + 1 - (i + 1), by omega, i + 1, hlt, rfl, (sm.trans sm₃).trans sm₄, h₄, Nat.le_trans htk3 hup₄⟩
      | brk => exact hR _ ((sm.trans sm₃).trans sm₄) h₄
      | ret v => exact h₄.elim
  · have hin : i = n := by omega
    subst hin
    refine wpAny_mono (hdone s' _ (fun s₁ => wpAny (model prog w) A (execs orelse env) (fun f s₃ => R (.ok f) s₃) (notedBy (model prog w) A env fun e s' => R (.error e) s') s₁) hJ fun s₁ sm₁ hD => ?_) (fun r s₁ h₁ => ?_) fun _ _ e => e
    rotate_left
    · obtain ⟨rfl, h₁⟩ := h₁
      exact h₁
    · refine wpAny_mono (helse s₁ _ hD) (fun f s₂ h₂ => ?_) fun _ _ e => e
      obtain ⟨rfl, sm₂, hF⟩ := h₂
      exact hR _ ((sm.trans sm₁).trans sm₂) hF

theorem for_any {target : Expr} {it : Value} {body orelse : List Stmt} {n : Nat} {R : Result → Shared → Prop} {J : Nat → Heap → Prop} {B : Nat → Value → Heap → Prop} {JD Fin : Heap → Prop}
    (hstep : ∀ i (s : Shared) (E : Value → Shared → Prop) (Q : Value → Shared → Prop), i < n → J i s.heap → (∀ v s', Sm s s' → B i v s'.heap → Q v s') →
      wpAny (model prog w) A (pyNext it) (fun r s₁ => match r with | none => False | some v => wpAny (model prog w) A (letOwnedTupleGo target it v) (fun _ s₂ => wpAny (model prog w) A (assign target env v) (fun _ s₃ => Q v s₃) E s₂) E s₁) E s)
    (hdone : ∀ (s : Shared) (E : Value → Shared → Prop) (Q : Shared → Prop), J n s.heap → (∀ s', Sm s s' → JD s'.heap → Q s') → wpAny (model prog w) A (pyNext it) (fun r s₁ => r = none ∧ Q s₁) E s)
    (hbody : ∀ i v (s : Shared) (E : Value → Shared → Prop), i < n → B i v s.heap → wpAny (model prog w) A (execs body env) (fun f s' => Sm s s' ∧ match f with | .next | .cont => J (i + 1) s'.heap | .brk => Fin s'.heap | .ret _ => False) E s)
    (helse : ∀ (s : Shared) (E : Value → Shared → Prop), JD s.heap → wpAny (model prog w) A (execs orelse env) (fun f s' => f = .next ∧ Sm s s' ∧ Fin s'.heap) E s)
    (h0 : J 0 s.heap) (hR : ∀ s', Sm s s' → Fin s'.heap → R (.ok .next) s') : codeAny (model prog w) A (.forLoop target it body orelse env) R s :=
  for_anyP hstep hdone (fun i v s E hi hB _ => hbody i v s E hi hB) helse h0 hR

theorem appendS {o elt : Expr} {apos pos pos2 : Pos} {Q : Flow → Shared → Prop}
    (h : wpAny (model prog w) A (eval o env) (fun ov s₁ => ∃ D ys z, ov = .ref D ∧ s₁.heap.get? D = some (lobj ys z) ∧
      wpAny (model prog w) A (eval elt env) (fun y s₂ => ∃ ys z, s₂.heap.get? D = some (lobj ys z) ∧ ys.size ≤ sizeLine ∧ ∀ h', h'.get? D = some (lobj (ys.push y) (z + 1)) → Heap.SameBut D s₂.heap h' → Q .next { s₂ with heap := h' }) E s₁) E s)
    (hbase : attributeBase o "append" env (eval o env) = eval o env := by rfl)
    (hfew : ((backTo pos (starEach [elt] env)).all (fun x => !x.1) && (backToKw pos (keywordEach [] env)).all (fun x => x.1.isSome)
      && decide (([elt] : List Expr).length + ([] : List Keyword).length + (if ([] : List Keyword).isEmpty then 0 else 1) < 30)) = true := by rfl)
    (hline : (apos.endLine == pos.line) = true := by rfl)
    (htrees : backTo pos (starEach [elt] env) = [(false, eval elt env)] := by rfl) (hi : interactive env = false := by rfl) :
    wpAny (model prog w) A (exec (.Expr (.Call (.Attribute o "append" apos) [elt] [] pos) pos2) env) Q E s := by
  refine wpAny_Expr (wpAny_Call_append hbase hfew hline htrees (wpAny_mono h (fun ov s₁ h₁ => ?_) fun _ _ e => e)) hi
  obtain ⟨D, ys, z, rfl, e, h₁⟩ := h₁
  refine ⟨D, ys, rfl, ⟨_, _, e, rfl, rfl, rfl⟩, wpAny_mono h₁ (fun y s₂ h₂ => ?_) fun _ _ e => e⟩
  obtain ⟨ys, z, e, hsz, q⟩ := h₂
  refine wpAny_call_entry slot_list_append ⟨_, e, rfl⟩ entry_list_append ?_ (args_list_append _ _)
  show wpAny _ _ (updateSeq D (·.push y) >>= fun _ => ret .none) _ _ s₂
  refine wpAny_bind ?_
  refine wpAny_updateSeq e rfl (wpAny_pure ⟨.none, rfl, q _ ?_ (Heap.SameBut.update ..)⟩)
  rw [Heap.get?_update_self _ e (by rw [Obj.mapSeq_push_plain]; rfl), Obj.mapSeq_push_plain]
end
end Mine
namespace Mine
section
variable {prog : Program} {w : World} {A : Around} {E : Value → Shared → Prop} {s s₀ : Shared} {env : Env} {h h₀ : Heap} {m cm : Mp} {oc : List (Str × Addr)} {led : List (Addr × Obj)} {x : Str} {v : Value} {c : Addr} {Q : Unit → Shared → Prop}
theorem At.sm {s₀ s : Shared} {h : Heap} (z : At s₀ h s) : Sm s₀ s := z.gr.sm
theorem At.in {s₀ s s' : Shared} {h h₀ h' : Heap} {L : Addr} (z : At s₀ h s) (sm : Sm s s') (e : s'.heap = h') (k0 : Kp s₀.heap h₀) (I : Inn h₀ L oc m cm led h') : At s₀ h' s' := ⟨⟨z.gr.sm.trans sm, e ▸ k0.trans I.keep⟩, e⟩
theorem sL {M : Model} (z : At s₀ h s) (k0 : Kp s₀.heap h₀) (I : Inn h₀ env.locals oc m cm led h) (q : ∀ h' s', At s₀ h' s' → Inn h₀ env.locals oc (up m x v) cm led h' → Heap.SameBut env.locals h h' → Q () s')
    (hk : env.scope.kind = .function := by rfl) (hx : env.kindOf x = some .local := by rfl) : wpAny M A (storeName env x v) Q E s := by
  have hz := z.hp
  subst hz
  exact st_L I (fun h' t I' hs => q h' _ (z.in (.heap s h' t) rfl k0 I') I' hs) hk hx
theorem sC {M : Model} (z : At s₀ h s) (k0 : Kp s₀.heap h₀) (I : Inn h₀ env.locals oc m cm led h) (hm : (x, c) ∈ oc) (hc : env.cells.lookup x = some c) (q : ∀ h' s', At s₀ h' s' → Inn h₀ env.locals oc m (up cm x v) led h' → Heap.SameBut c h h' → Q () s')
    (hk : env.scope.kind = .function := by rfl) (hx : env.kindOf x = some .cell := by rfl) : wpAny M A (storeName env x v) Q E s := by
  have hz := z.hp
  subst hz
  exact st_C I hm hc (fun h' t I' hs => q h' _ (z.in (.heap s h' t) rfl k0 I') I' hs) hk hx
end
theorem up_ne {m : Mp} {x y : Str} {v : Value} (h : (x == y) = false) : up m y v x = m x := if_neg (by simpa using h)
theorem up_eq {m : Mp} {x : Str} {v : Value} : up m x v x = some v := if_pos rfl
end Mine
namespace Mine
def inB (x y : Str) : Bool := !(Builtin.Str.occurrences x y 0 x.length 1).isEmpty
section
variable {prog : Program} {w : World} {A : Around} {E : Value → Shared → Prop} {s s₀ : Shared} {h : Heap} {env : Env} {Q : Value → Shared → Prop}
/-- a sign out of a text -/
theorem sStr {ve se : Expr} {pos : Pos} (q : wpAny (model prog w) A (eval ve env) (fun o s₁ => wpAny (model prog w) A (eval se env) (fun i s₂ => ∃ s₀ h x k u t, At s₀ h s₂ ∧ o = .str x u ∧ i = .int k t ∧ 0 ≤ k ∧ k < x.length ∧ k < 2 ^ 63 ∧ ∀ t' s', At s₀ h s' → Q (.str ⟨#[x.cps.getD k.toNat 0]⟩ t') s') E s₁) E s)
    (hs : ∀ o i, subscripted se false o i = operate [o, i] (getItem o i) := by intro _ _; rfl) : wpAny (model prog w) A (eval (.Subscript ve se pos) env) Q E s := by
  refine sub_gen (wpAny_mono q (fun o s₁ h₁ => wpAny_mono h₁ (fun i s₂ h₂ => ?_) fun _ _ x => x) fun _ _ x => x) hs
  obtain ⟨s₀, h, x, k, u, t, z, rfl, rfl, h0, hl, hfit, q⟩ := h₂
  refine ⟨_, _, PyProof.Rows.slot_str_getitem.lookup, typeIs_str s₂ x u, PyProof.Rows.getItem_str (c := x.cps.getD k.toNat 0) ?_ ?_ (wpAny_letTemporaryGo (q _ _ ⟨z.gr.trans (.tok _ _), z.hp⟩))⟩
  · simp only [Bool.or_eq_false_iff, decide_eq_false_iff_not]; omega
  · have hl' : k.toNat < x.cps.size := by
      have : x.length = x.cps.size := rfl
      omega
    have e : seqIndex? k x.length = some k.toNat := by
      unfold seqIndex?
      simp only [if_neg (show ¬ k < 0 by omega)]
      rw [if_pos (by simp; omega)]
    rw [e]
    show x.cps[k.toNat]? = some (x.cps.getD k.toNat 0)
    rw [Array.getD_eq_getD_getElem?, Array.getElem?_eq_getElem hl']
    rfl
end
end Mine
end

section
open PySem PySem.Spec PySem.Calls PySem.W PyProof.Rows
open PySem.AutoSeq1 (wpAny_loadPart')
set_option Elab.async false
namespace Mine
set_option maxRecDepth 100000
theorem meets_enumerate_newT (l : Addr) (items : Array Value) (n : Nat) (dct : Option Addr) (sl : Array (Option Value)) :
    Meets (Builtin.«enumerate.__new__» ⟨[.type "enumerate", .ref l], []⟩) (fun _ R s => s.heap.get? l = some { cls := .type "tuple", dict := dct, data := .seq items n, slots := sl } ∧
      R (.ok (.ret (.ref (s.heap.push { cls := .type "tuple_iterator", data := .fields #[.ref l, .int 0 0] }).objs.size)))
        { s with heap := (s.heap.push { cls := .type "tuple_iterator", data := .fields #[.ref l, .int 0 0] }).push { cls := .type "enumerate", data := .fields #[.none, .bool false, .ref s.heap.objs.size, rawInt 0, .none, .none] } }) :=
  .of_wp fun prog w A R s h => by
    obtain ⟨hp, g, d, tk, os⟩ := s; obtain ⟨hl, h⟩ := h
    have hsub := sub_enumerate
    have hL : Heap.IsTuple (Shared.heap ⟨hp, g, d, tk, os⟩) l items := ⟨_, hl, rfl, n, rfl⟩
    wp_walk using wpAny_loadPart' hl
    refine wpAny_stack_any fun st => wpAny_pure ?_
    split
    · rename_i c _ _ _ _ _
      cases (c == Value.type "enumerate")
      · wp_walk using wpAny_loadPart' hl, wpAny_pyIter_tuple hL
        exact ⟨_, rfl, h⟩
      · wp_walk using wpAny_loadPart' hl, wpAny_pyIter_tuple hL
        exact ⟨_, rfl, h⟩
    · wp_walk using wpAny_loadPart' hl, wpAny_pyIter_tuple hL
      exact ⟨_, rfl, h⟩
section
variable {prog : Program} {w : World} {A : Around} {E : Value → Shared → Prop} {s : Shared}
theorem call_enumerate_tuple {l : Addr} {items : Array Value} {Q : Value → Shared → Prop} (hL : s.heap.IsTuple l items)
    (h : ∀ h', IsEnum h' (s.heap.objs.size + 1) s.heap.objs.size 0 .none → h'.IsTupleIter s.heap.objs.size l 0 → h'.objs.size = s.heap.objs.size + 2 →
      (∀ b o, s.heap.get? b = some o → h'.get? b = some o) → Q (.ref (s.heap.objs.size + 1)) { s with heap := h' }) :
    wpAny (model prog w) A (call (.type "enumerate") [.ref l]) Q E s := by
  obtain ⟨⟨c, dct, dt, sl⟩, hl, hc, n, hd⟩ := hL
  replace hc : c = .type "tuple" := hc
  replace hd : dt = .seq items n := hd
  subst hc hd
  refine callType_new F.called_enumerate (by decide) (F.typeCall_enumerate_1 _) (F.newCall_enumerate_1 _) (fun obj => F.args_object_init_2 obj _) F.entry_enumerate_new
    (meets_enumerate_newT l items n dct sl) ⟨hl, ?_⟩
  have hz : (s.heap.push { cls := .type "tuple_iterator", data := .fields #[.ref l, .int 0 0] }).objs.size = s.heap.objs.size + 1 := Heap.size_push ..
  show _ ∧ _
  rw [hz]
  have he : IsEnum ((s.heap.push { cls := .type "tuple_iterator", data := .fields #[.ref l, .int 0 0] }).push
      { cls := .type "enumerate", data := .fields #[.none, .bool false, .ref s.heap.objs.size, rawInt 0, .none, .none] }) (s.heap.objs.size + 1) s.heap.objs.size 0 .none := by
    have := Heap.get?_push_size (s.heap.push { cls := .type "tuple_iterator", data := .fields #[.ref l, .int 0 0] })
      (o := { cls := .type "enumerate", data := .fields #[.none, .bool false, .ref s.heap.objs.size, rawInt 0, .none, .none] }) rfl
    rw [hz] at this; exact this
  refine ⟨⟨_, he, rfl⟩, h _ he ⟨_, Heap.get?_push_of_some _ (Heap.get?_push_size _ rfl), rfl, rfl⟩ (by rw [Heap.size_push, hz]) fun b o x => Heap.get?_push_of_some _ (Heap.get?_push_of_some _ x)⟩
theorem wpAny_nextOf_tuple_item {it t : Addr} {i : Nat} {items} {x : Value} {Q : Value → Shared → Prop} (hit : s.heap.IsTupleIter it t i)
    (ht : s.heap.IsTuple t items) (hx : items[i]? = some x)
    (hQ : ∀ h', h'.IsTupleIter it t (i + 1) → Heap.SameBut it s.heap h' → Q x { s with heap := h' }) :
    wpAny (model prog w) A (Builtin.SmallTypes.nextOf (.ref it)) Q E s := by
  obtain ⟨o, ho, hc, hd⟩ := id hit
  obtain ⟨ol, hol, _, nl, hdl⟩ := ht
  unfold Builtin.SmallTypes.nextOf
  refine wpAny_bind (wpAny_callSpecial?_slot (name := Str.ofString "__next__") hit.typeIs F.slot_tuple_iterator_next
    (wpAny_call_entry F.slot_tuple_iterator_next hit.typeIs F.entry_tuple_iterator_next ?_ (F.args_tuple_iterator_next_1 _)))
  show wpAny _ _ (field (.ref it) 0 >>= _) _ _ s
  refine wpAny_bind (wpAny_field ho hd (x := .ref t) rfl ?_)
  show wpAny _ _ (if (Value.ref t == Value.none) = true then _ else _) _ _ s
  rw [if_neg (show ¬ ((Value.ref t == Value.none) = true) from Bool.false_ne_true)]
  show wpAny _ _ (field (.ref it) 1 >>= _) _ _ s
  refine wpAny_bind (wpAny_field ho hd (x := .int i 0) rfl ?_)
  show wpAny _ _ (seqItems? (.ref t) >>= _) _ _ s
  refine wpAny_bind (wpAny_seqItems hol hdl ?_)
  simp only [Int.toNat_natCast, hx]
  refine wpAny_bind (wpAny_setField ho hd (by simp) (wpAny_pure ⟨x, rfl, wpAny_pure (hQ _ ?_ (Heap.SameBut.update ..))⟩))
  exact ⟨_, Heap.get?_update_self _ ho (Obj.isFreed_of_fields (Obj.data_mapFields hd _)), (Obj.cls_mapFields ..).trans hc, by
    rw [Obj.data_mapFields hd]; simp [rawInt]⟩
theorem wpAny_nextOf_tuple_end {it t : Addr} {i : Nat} {items} {Q : Value → Shared → Prop} (hh : A.handled = none)
    (hit : s.heap.IsTupleIter it t i) (ht : s.heap.IsTuple t items) (hx : items[i]? = none)
    (hE : ∀ h' e, Heap.ExtBut it s.heap h' → (∃ o, h'.get? e = some o ∧ o.cls = .type "StopIteration") → E (.ref e) { s with heap := h' }) :
    wpAny (model prog w) A (Builtin.SmallTypes.nextOf (.ref it)) Q E s := by
  obtain ⟨o, ho, hc, hd⟩ := id hit
  obtain ⟨ol, hol, _, nl, hdl⟩ := ht
  unfold Builtin.SmallTypes.nextOf
  refine wpAny_bind (wpAny_callSpecial?_slot (name := Str.ofString "__next__") hit.typeIs F.slot_tuple_iterator_next
    (wpAny_call_entry F.slot_tuple_iterator_next hit.typeIs F.entry_tuple_iterator_next ?_ (F.args_tuple_iterator_next_1 _)))
  show wpAny _ _ (field (.ref it) 0 >>= _) _ _ s
  refine wpAny_bind (wpAny_field ho hd (x := .ref t) rfl ?_)
  show wpAny _ _ (if (Value.ref t == Value.none) = true then _ else _) _ _ s
  rw [if_neg (show ¬ ((Value.ref t == Value.none) = true) from Bool.false_ne_true)]
  show wpAny _ _ (field (.ref it) 1 >>= _) _ _ s
  refine wpAny_bind (wpAny_field ho hd (x := .int i 0) rfl ?_)
  show wpAny _ _ (seqItems? (.ref t) >>= _) _ _ s
  refine wpAny_bind (wpAny_seqItems hol hdl ?_)
  simp only [Int.toNat_natCast, hx]
  refine wpAny_bind (wpAny_rule (wpAny_bind (wpAny_setField ho hd (by simp) ?_)))
  show wpAny _ _ (newExc (.type "StopIteration") [] >>= _) _ _ _
  refine wpAny_bind ?_
  simp only [newExc, newTuple]
  refine wpAny_bind (wpAny_newObj_type ?_ (by size_fits))
  refine wpAny_bind (m := firstArgMember _ _) (wpAny_of_eq (a := Value.none) (by first | rfl | (simp only [firstArgMember]; rfl)) ?_)
  refine wpAny_newObj_type ?_ (by size_fits)
  simp only [raiseNew]
  refine wpAny_bind (wpAny_handled ?_)
  first | rw [show A.in1.handled = none from hh] | rw [hh]
  refine wpAny_bind (wpAny_pure (wpAny_throw ?_))
  exact hE _ _ (((Heap.SameBut.update ..).extBut.push _).push _) ⟨_, Heap.get?_push_size _ rfl, rfl⟩
end
/-- the iterator (of a list or a tuple) stands at item i -/
def IterO (c : String) (src : Addr) (i : Nat) (o : Obj) : Prop := o.cls = .type c ∧ o.data = .fields #[.ref src, .int i 0]
def SrcO (c : String) (src : Addr) (items : Array Value) (h : Heap) : Prop := (c = "list_iterator" ∧ h.IsList src items) ∨ (c = "tuple_iterator" ∧ h.IsTuple src items)
theorem drawsSeq {prog : Program} {w : World} {A : Around} (hh : A.handled = none) (it src : Addr) (hne : src ≠ it) (c : String) (items : Array Value) :
    Draws prog w A it [it, src] items.size (fun i v => items[i]? = some v) (fun i h => (∃ o, h.get? it = some o ∧ IterO c src i o) ∧ SrcO c src items h) where
  live := fun _ _ st => let ⟨o, ho, _⟩ := st.1; ⟨o, ho⟩
  frame := fun _ _ _ st hk => by
    obtain ⟨⟨o, ho, r⟩, st2⟩ := st
    refine ⟨⟨o, hk it (by simp) o ho, r⟩, ?_⟩
    rcases st2 with ⟨rfl, o, ho, r⟩ | ⟨rfl, o, ho, r⟩
    · exact .inl ⟨rfl, o, hk src (by simp) o ho, r⟩
    · exact .inr ⟨rfl, o, hk src (by simp) o ho, r⟩
  item := fun i s Q E hi st hQ => by
    obtain ⟨⟨o, ho, r⟩, st2⟩ := st
    rcases st2 with ⟨rfl, z⟩ | ⟨rfl, z⟩
    · refine wpAny_nextOf_list_item ⟨o, ho, r⟩ z (x := items[i]) (by simp [hi]) fun h' hit' hs' => ?_
      exact hQ _ h' s.toks (by simp [hi]) ⟨hit', .inl ⟨rfl, z.extBut hs'.extBut hne⟩⟩ hs'
    · refine wpAny_nextOf_tuple_item ⟨o, ho, r⟩ z (x := items[i]) (by simp [hi]) fun h' hit' hs' => ?_
      exact hQ _ h' s.toks (by simp [hi]) ⟨hit', .inr ⟨rfl, z.extBut hs'.extBut hne⟩⟩ hs'
  done := fun s Q E st hE => by
    obtain ⟨⟨o, ho, r⟩, st2⟩ := st
    rcases st2 with ⟨rfl, z⟩ | ⟨rfl, z⟩
    · exact wpAny_nextOf_list_end hh ⟨o, ho, r⟩ z (by simp) hE
    · exact wpAny_nextOf_tuple_end hh ⟨o, ho, r⟩ z (by simp) hE
theorem Inn.reled {h₀ h h' : Heap} {L : Addr} {oc : List (Str × Addr)} {m cm : Mp} {led : List (Addr × Obj)} (led' : List (Addr × Obj)) (x : Inn h₀ L oc m cm led h) (he : led'.map (·.1) = led.map (·.1))
    (hk : ∀ b o, b ∉ led.map (·.1) → h.get? b = some o → h'.get? b = some o) (hl : ∀ p ∈ led', h'.get? p.1 = some p.2 ∧ ¬ isT p.2) : Inn h₀ L oc m cm led' h' := by
  have nl : ∀ b, b ∈ led.map (·.1) → b ≠ L ∧ (∀ q ∈ oc, q.2 ≠ b) ∧ ∀ o, h₀.get? b ≠ some o := fun b hb => by
    obtain ⟨p, hp, rfl⟩ := List.mem_map.mp hb
    exact (x.led p hp).2.2
  refine ⟨x.ns.at' fun ob eb => hk L ob (fun hb => (nl _ hb).1 rfl) eb, fun b ob eb => ?_, x.above, fun q hq => ?_, x.cnew, x.apart, x.names, fun p hp => ?_, ?_⟩
  · have nb : b ∉ led.map (·.1) := fun hb => (nl _ hb).2.2 ob eb
    rcases x.keep b ob eb with e1 | ⟨ps, more, rfl, e1⟩
    · exact .inl (hk b _ nb e1)
    · exact .inr ⟨ps, more, rfl, hk b _ nb e1⟩
  · obtain ⟨ob, hob, hd⟩ := x.cell q hq
    exact ⟨ob, hk _ ob (fun hb => (nl _ hb).2.1 q hq rfl) hob, hd⟩
  · have hb : p.1 ∈ led.map (·.1) := he ▸ List.mem_map.mpr ⟨p, hp, rfl⟩
    exact ⟨(hl p hp).1, (hl p hp).2, nl _ hb⟩
  · have u := x.uniq
    have : List.Pairwise (fun a b => a ≠ b) (led.map (·.1)) := List.pairwise_map.mpr u
    rw [← he] at this
    exact List.pairwise_map.mp this
theorem Inn.new2 {h₀ h h' : Heap} {L : Addr} {oc : List (Str × Addr)} {m cm : Mp} {led : List (Addr × Obj)} (x : Inn h₀ L oc m cm led h) (k : Kp h h') {a b : Addr} {o ob : Obj} (ha : ∀ o', h.get? a ≠ some o') (hb : ∀ o', h.get? b ≠ some o') (hab : a ≠ b)
    (e : h'.get? a = some o) (ho : ¬ isT o) (e' : h'.get? b = some ob) (hob : ¬ isT ob) : Inn h₀ L oc m cm ((a, o) :: (b, ob) :: led) h' := by
  have y := x.new k hb e' hob
  refine ⟨y.ns, y.keep, y.above, y.cell, y.cnew, y.apart, y.names, fun p hp => ?_, List.pairwise_cons.mpr ⟨fun q hq => ?_, y.uniq⟩⟩
  · rcases List.mem_cons.mp hp with rfl | hp
    · exact (x.new k ha e ho).led _ (.head _)
    · exact y.led p hp
  · rcases List.mem_cons.mp hq with rfl | hq
    · exact hab
    · rintro rfl
      exact ha _ (x.led q hq).1
section
variable {prog : Program} {w : World} {A : Around} {E : Value → Shared → Prop} {s : Shared} {env : Env} {h₀ : Heap} {oc : List (Str × Addr)} {m cm : Mp} {led : List (Addr × Obj)} {a b c : Str} {pa pb pc pos : Pos} {k : Nat}
theorem assign2 {T : Addr} {x y : Value} {Q : Unit → Shared → Prop} (hh : A.handled = none) (In : Inn h₀ env.locals oc m cm led s.heap) (ht : s.heap.IsTuple T #[x, y])
    (hQ : ∀ s', Sm s s' → Inn h₀ env.locals oc (up (up m a x) b y) cm led s'.heap → Q () s')
    (hk : env.scope.kind = .function := by rfl) (ha : env.kindOf a = some .local := by rfl) (hb : env.kindOf b = some .local := by rfl) :
    wpAny (model prog w) A (assign (.Tuple [.Name a pa, .Name b pb] k pos) env (.ref T)) Q E s := by
  refine wpAny_assign_Tuple hh ht rfl rfl fun h' he => ?_
  have kp : Kp s.heap h' := .of fun b o e => he b o (fun q => absurd (Heap.lt_size e) (by rw [q]; exact Nat.lt_irrefl _)) e
  show wpAny _ _ (assignInOrder [assign (.Name a pa) env, assign (.Name b pb) env] [x, y]) Q E _
  refine wpAny_assignInOrder_more (wpAny_assign_Name (st_L (In.kp kp) (fun h₁ t₁ I₁ _ => ?_) hk ha))
  refine wpAny_assignInOrder_more (wpAny_assign_Name (st_L I₁ (fun h₂ t₂ I₂ _ => ?_) hk hb))
  exact wpAny_assignInOrder_none (hQ _ (((Sm.heap1 s h').trans (.heap _ h₁ t₁)).trans (.heap _ h₂ t₂)) I₂)
theorem assign3 {T : Addr} {x y z : Value} {Q : Unit → Shared → Prop} (hh : A.handled = none) (In : Inn h₀ env.locals oc m cm led s.heap) (ht : s.heap.IsTuple T #[x, y, z])
    (hQ : ∀ s', Sm s s' → Inn h₀ env.locals oc (up (up (up m a x) b y) c z) cm led s'.heap → (∀ b o, b ≠ env.locals → s.heap.get? b = some o → s'.heap.get? b = some o) → Q () s')
    (hk : env.scope.kind = .function := by rfl) (ha : env.kindOf a = some .local := by rfl) (hb : env.kindOf b = some .local := by rfl) (hc : env.kindOf c = some .local := by rfl) :
    wpAny (model prog w) A (assign (.Tuple [.Name a pa, .Name b pb, .Name c pc] k pos) env (.ref T)) Q E s := by
  refine wpAny_assign_Tuple hh ht rfl rfl fun h' he => ?_
  have kp' : ∀ b o, s.heap.get? b = some o → h'.get? b = some o := fun b o e => he b o (fun q => absurd (Heap.lt_size e) (by rw [q]; exact Nat.lt_irrefl _)) e
  have kp : Kp s.heap h' := .of kp'
  show wpAny _ _ (assignInOrder [assign (.Name a pa) env, assign (.Name b pb) env, assign (.Name c pc) env] [x, y, z]) Q E _
  refine wpAny_assignInOrder_more (wpAny_assign_Name (st_L (In.kp kp) (fun h₁ t₁ I₁ e₁ => ?_) hk ha))
  refine wpAny_assignInOrder_more (wpAny_assign_Name (st_L I₁ (fun h₂ t₂ I₂ e₂ => ?_) hk hb))
  refine wpAny_assignInOrder_more (wpAny_assign_Name (st_L I₂ (fun h₃ t₃ I₃ e₃ => ?_) hk hc))
  exact wpAny_assignInOrder_none (hQ _ ((((Sm.heap1 s h').trans (.heap _ h₁ t₁)).trans (.heap _ h₂ t₂)).trans (.heap _ h₃ t₃)) I₃ fun b o nb e => (e₃.2 b nb).trans ((e₂.2 b nb).trans ((e₁.2 b nb).trans (kp' b o e))))
abbrev enumO (it : Addr) (i : Int) (old : Value) : Obj := { cls := .type "enumerate", dict := none, data := .fields #[.none, .bool false, .ref it, rawInt i, .none, old], slots := #[] }
/-- one turn of `for a, b in enumerate(..)`: the pair is made, handed out and taken apart -/
theorem step_enum {e it src : Addr} {oi : Obj} {old x : Value} {i : Nat} {cc : String} {items : Array Value} {Q : Value → Shared → Prop} (hh : A.handled = none)
    (In : Inn h₀ env.locals oc m cm ((e, enumO it i old) :: (it, oi) :: led) s.heap) (hi : IterO cc src i oi) (hs : SrcO cc src items s.heap) (hne : src ≠ it) (hx : items[i]? = some x)
    (hQ : ∀ v s' oi' old' t, Sm s s' → Inn h₀ env.locals oc (up (up m a (.int i t)) b x) cm ((e, enumO it (i + 1 : Nat) old') :: (it, oi') :: led) s'.heap → IterO cc src (i + 1) oi' → Q v s')
    (hk : env.scope.kind = .function := by rfl) (ha : env.kindOf a = some .local := by rfl) (hb : env.kindOf b = some .local := by rfl) :
    wpAny (model prog w) A (pyNext (.ref e)) (fun r s₁ => match r with | none => False | some v => wpAny (model prog w) A (letOwnedTupleGo (.Tuple [.Name a pa, .Name b pb] k pos) (.ref e) v) (fun _ s₂ => wpAny (model prog w) A (assign (.Tuple [.Name a pa, .Name b pb] k pos) env v) (fun _ s₃ => Q v s₃) E s₂) E s₁) E s := by
  obtain ⟨u1, u2⟩ := List.pairwise_cons.mp In.uniq
  obtain ⟨u3, u4⟩ := List.pairwise_cons.mp u2
  have hei : e ≠ it := u1 (it, oi) (.head _)
  have he := In.get (.head _)
  have hio := In.get (.tail _ (.head _))
  have hes : e ≠ src := by
    rintro rfl
    rcases hs with ⟨_, o, ho, hc, _⟩ | ⟨_, o, ho, hc, _⟩
    all_goals
      rw [he] at ho
      cases ho
      injection hc with hc
      exact absurd hc (by decide)
  refine wpAny_pyNext_enum_itemD (drawsSeq (A := A.in1) hh it src hne cc items) he ⟨⟨_, hio, hi⟩, hs⟩ ?_ hei (by simp [hei, hes]) fun x' h' tk hx' ho' st' hT hsz hk' => ?_
  · rw [Array.getElem?_eq_some_iff] at hx
    exact hx.1
  rw [hx] at hx'
  cases hx'
  obtain ⟨⟨oi', hoi', hi'⟩, _⟩ := st'
  show wpAny _ _ (letOwnedTupleGo _ (.ref e) (.ref s.heap.objs.size)) _ E _
  refine wpAny_letOwnedTupleGo_enum ho' fun h₂ he₂ hs₂ => ?_
  have In₂ : Inn h₀ env.locals oc m cm ((e, enumO it (i + 1 : Nat) x) :: (it, oi') :: led) h₂ := by
    refine Inn.reled _ In rfl (fun b o hb eb => ?_) fun p hp => ?_
    · simp only [List.map_cons, List.mem_cons, not_or] at hb
      exact (hs₂.2 b hb.1).trans (hk' b o hb.1 hb.2.1 eb)
    · rcases List.mem_cons.mp hp with rfl | hp
      · exact ⟨he₂, not_isT_cls rfl⟩
      · rcases List.mem_cons.mp hp with rfl | hp
        · exact ⟨(hs₂.2 _ hei.symm).trans hoi', not_isT_cls hi'.1⟩
        · have z := In.led p (.tail _ (.tail _ hp))
          have n1 : p.1 ≠ e := Ne.symm (u1 p (.tail _ hp))
          have n2 : p.1 ≠ it := Ne.symm (u3 p hp)
          exact ⟨(hs₂.2 _ n1).trans (hk' _ _ n1 n2 z.1), z.2.1⟩
  have hel : e < s.heap.objs.size := Heap.lt_size he
  refine assign2 hh In₂ ⟨_, (hs₂.2 _ (Nat.ne_of_gt hel)).trans hT, rfl, _, rfl⟩ (fun s' sm I' => ?_) hk ha hb
  exact hQ _ s' oi' x tk ((Sm.heap s h' (tk + 1)).trans ((Sm.heap1 _ h₂).trans sm)) I' hi'
theorem done_enum {L e it src : Addr} {oi : Obj} {old : Value} {i : Nat} {cc : String} {items : Array Value} {Q : Shared → Prop} (hh : A.handled = none)
    (In : Inn h₀ L oc m cm ((e, enumO it i old) :: (it, oi) :: led) s.heap) (hi : IterO cc src i oi) (hs : SrcO cc src items s.heap) (hne : src ≠ it) (hx : i = items.size)
    (hQ : ∀ s', Sm s s' → Inn h₀ L oc m cm led s'.heap → Q s') :
    wpAny (model prog w) A (pyNext (.ref e)) (fun r s₁ => r = none ∧ Q s₁) E s := by
  obtain ⟨u1, u2⟩ := List.pairwise_cons.mp In.uniq
  have hei : e ≠ it := u1 (it, oi) (.head _)
  have he := In.get (.head _)
  have hio := In.get (.tail _ (.head _))
  subst hx
  refine wpAny_pyNext_enum_endD (drawsSeq (A := A.in1) hh it src hne cc items) he ⟨⟨_, hio, hi⟩, hs⟩ fun h' he' => ⟨rfl, hQ _ (.heap1 _ _) ?_⟩
  have I1 := Inn.lose (l1 := [(e, _)]) In (fun b o hb eb => he' b o hb eb)
  exact I1.drop (.cons _ (.refl _))
end
end Mine
end
open PySem PySem.Spec PySem.Calls PySem.W PyProof.Rows
local macro_rules | `(tactic| walk_at "mm") => `(tactic| first
  | ((with_reducible show wpAny _ _ (eval (Expr.Constant (Const.int _) _ _) _) _ _ _); refine Mine.cInt (by assumption) ?_; intro _ _ _)
  | ((with_reducible show wpAny _ _ (eval (Expr.BinOp _ _ _ _) _) _ _ _); refine wpAny_BinOp ?_)
  | ((with_reducible show wpAny _ _ (eval (Expr.UnaryOp _ _ _) _) _ _ _); refine wpAny_UnaryOp ?_)
  | ((with_reducible show wpAny _ _ (spliced (backTo _ (starEach (_ :: _) _))) _ _ _); refine wpAny_items_cons ?_)
  | ((with_reducible show wpAny _ _ (spliced (backTo _ (starEach [] _))) _ _ _); refine wpAny_items_nil ?_)
  | ((with_reducible show wpAny _ _ (unaryOp UnaryOp.USub (Value.int _ _)) _ _ _); refine Mine.negI (by assumption) ?_; intro _ _ _)
  | ((with_reducible show wpAny _ _ (binaryOp Operator.Add (Value.int _ _) (Value.int _ _)) _ _ _); refine Mine.addI (by assumption) ?_; intro _ _ _)
  | ((with_reducible show wpAny _ _ (binaryOp Operator.Sub (Value.int _ _) (Value.int _ _)) _ _ _); refine Mine.subI (by assumption) ?_; intro _ _ _))

section
open PySem PySem.Spec PySem.Calls PySem.W PyProof.Rows
set_option Elab.async false
namespace Mine
open PySem.Float64
/-- the float x is c * 2^-18 -/
structure Fl (x : UInt64) (c : Int) : Prop where
  d : ∃ s m e, decode x = .fin s m e
  v : val x = c * ((2 ^ 1056 : Nat) : Int)
theorem P_pos : 0 < (2 ^ 1056 : Nat) := Nat.two_pow_pos _
theorem rep {c : Nat} (hc : c < 2 ^ 53) : ∃ t, t < infMag ∧ V t = c * 2 ^ 1056 := by
  by_cases h0 : c = 0
  · subst h0
    exact ⟨0, by decide, by rw [V_zero, Nat.zero_mul]⟩
  · have hl : c.log2 < 53 := (Nat.log2_lt h0).mpr hc
    have h1 : 2 ^ c.log2 ≤ c := (Nat.le_log2 h0).mp (Nat.le_refl _)
    have h2 : c < 2 ^ (c.log2 + 1) := (Nat.log2_lt h0).mp (Nat.lt_succ_self _)
    generalize c.log2 = l at hl h1 h2
    have e1 : 2 ^ 52 ≤ c * 2 ^ (52 - l) := by
      calc 2 ^ 52 = 2 ^ l * 2 ^ (52 - l) := by rw [← Nat.pow_add]; congr 1; omega
        _ ≤ c * 2 ^ (52 - l) := Nat.mul_le_mul_right _ h1
    have e2 : c * 2 ^ (52 - l) < 2 ^ 53 := by
      calc c * 2 ^ (52 - l) < 2 ^ (l + 1) * 2 ^ (52 - l) := Nat.mul_lt_mul_of_pos_right h2 (Nat.two_pow_pos _)
        _ = 2 ^ 53 := by rw [← Nat.pow_add]; congr 1; omega
    refine ⟨(1004 + l) * 2 ^ 52 + c * 2 ^ (52 - l), ?_, ?_⟩
    · have : infMag = 2047 * 2 ^ 52 := rfl
      omega
    · rw [V_at (Nat.le_of_lt e2) (.inl e1), Nat.mul_assoc, ← Nat.pow_add]
      congr 2; omega
theorem dist_zero {a b : Nat} (h : dist a b ≤ 0) : a = b := by unfold dist at h; omega
theorem exact_of {r : UInt64} {neg : Bool} {W D c : Nat} (R : Right r neg W D) (hD : 0 < D) (hc : c < 2 ^ 53) (hW : W = D * (c * 2 ^ 1056)) : (∃ s m e, decode r = .fin s m e) ∧ val r = sgn neg (c * 2 ^ 1056) := by
  obtain ⟨t, rfl, hle, hov, hr⟩ := R
  have hlt : t < infMag := by
    rcases Nat.lt_or_eq_of_le hle with h | h
    · exact h
    · exfalso
      have h1 := hov.mp h
      rw [hW] at h1
      have h2 : D * ((2 ^ 54 - 1) * 2 ^ 2045) ≤ D * (2 * (c * 2 ^ 1056)) := by
        calc _ ≤ 2 * (D * (c * 2 ^ 1056)) := h1
          _ = D * (2 * (c * 2 ^ 1056)) := by rw [Nat.mul_left_comm]
      have h3 := Nat.le_of_mul_le_mul_left h2 hD
      have h4 : 2 * (c * 2 ^ 1056) < 2 * (2 ^ 53 * 2 ^ 1056) := Nat.mul_lt_mul_of_pos_left (Nat.mul_lt_mul_of_pos_right hc (Nat.two_pow_pos _)) (by decide)
      have h5 : 2 * (2 ^ 53 * 2 ^ 1056) ≤ (2 ^ 54 - 1) * 2 ^ 2045 := by decide +kernel
      exact absurd (Nat.lt_of_le_of_lt h3 h4) (Nat.not_lt.mpr h5)
  obtain ⟨t₀, _, hv⟩ := rep hc
  have h1 := (hr hlt t₀).1
  rw [hv, ← hW] at h1
  have h2 : W = D * V t := dist_zero (by rw [show dist W W = 0 by unfold dist; omega] at h1; exact h1)
  have h3 : V t = c * 2 ^ 1056 := Nat.eq_of_mul_eq_mul_left hD (h2.symm.trans hW)
  obtain ⟨m, e, hd, _⟩ := decode_pack neg hlt
  exact ⟨⟨_, _, _, hd⟩, by rw [val_pack neg hlt, h3]⟩
theorem sgn_dec {a : Int} {n : Nat} (h : a.natAbs = n) (b : Bool) (hb : b = decide (a < 0)) : sgn b n = a := by
  subst hb; subst h
  unfold sgn
  by_cases h : a < 0
  · rw [if_pos (by simpa using h)]; omega
  · rw [if_neg (by simpa using h)]; omega
theorem Fl.abs {x : UInt64} {a : Int} (h : Fl x a) : (val x).natAbs = a.natAbs * 2 ^ 1056 := by rw [h.v, Int.natAbs_mul, Int.natAbs_natCast]
theorem Fl.sign {x : UInt64} {s : Bool} {m : Nat} {e : Int} {a : Int} (h : Fl x a) (hd : decode x = .fin s m e) (ha : a ≠ 0) : s = decide (a < 0) := by
  have hv := h.v
  rw [val_eq hd] at hv
  have hP : (0 : Int) < ((2 ^ 1056 : Nat) : Int) := Int.ofNat_lt.mpr P_pos
  generalize ((2 ^ 1056 : Nat) : Int) = P at *
  unfold sgn at hv
  have hm : (0 : Int) ≤ ((m * 2 ^ (e + 1074).toNat : Nat) : Int) := Int.natCast_nonneg _
  generalize ((m * 2 ^ (e + 1074).toNat : Nat) : Int) = M at *
  cases s
  · rw [if_neg (by decide)] at hv
    have : ¬ a < 0 := fun h => by
      have := Int.mul_neg_of_neg_of_pos h hP
      omega
    simp [this]
  · rw [if_pos rfl] at hv
    have : a < 0 := by
      rcases Int.lt_trichotomy a 0 with h | h | h
      · exact h
      · exact absurd h ha
      · have := Int.mul_pos h hP
        omega
    simp [this]
theorem signed {r : UInt64} {neg : Bool} {c : Int} (h : (∃ s m e, decode r = .fin s m e) ∧ val r = sgn neg (c.natAbs * 2 ^ 1056)) (hn : c ≠ 0 → neg = decide (c < 0)) : Fl r c := by
  refine ⟨h.1, ?_⟩
  rw [h.2, sgn_mul]
  congr 1
  by_cases h0 : c = 0
  · subst h0; cases neg <;> rfl
  · exact sgn_dec rfl _ (hn h0)
theorem Fl.zero (s : Bool) : Fl (zero s) 0 := by
  have := decode_pack s (t := 0) (by decide)
  obtain ⟨m, e, h1, _⟩ := this
  refine ⟨⟨_, _, _, h1⟩, ?_⟩
  show val (pack s 0) = _
  rw [val_pack s (by decide), V_zero, Int.zero_mul]
  cases s <;> rfl
theorem Fl.add {x y : UInt64} {a b : Int} (hx : Fl x a) (hy : Fl y b) (hb : (a + b).natAbs < 2 ^ 53) : Fl (add x y) (a + b) := by
  obtain ⟨⟨s, m, e, dx⟩, vx⟩ := hx
  obtain ⟨⟨s', m', e', dy⟩, vy⟩ := hy
  have hv : val x + val y = (a + b) * ((2 ^ 1056 : Nat) : Int) := by rw [vx, vy, Int.add_mul]
  have hP : (0 : Int) < ((2 ^ 1056 : Nat) : Int) := Int.ofNat_lt.mpr P_pos
  obtain ⟨h1, h2⟩ := add_right dx dy
  by_cases h0 : a + b = 0
  · rw [h1 (by rw [hv, h0, Int.zero_mul]), h0]
    exact Fl.zero _
  · have hne : val x + val y ≠ 0 := by
      rw [hv]; exact Int.mul_ne_zero h0 (by omega)
    refine signed (exact_of (h2 hne) (by decide) hb ?_) fun _ => ?_
    · rw [hv, Int.natAbs_mul, Int.natAbs_natCast, Nat.one_mul]
    · rw [hv]
      apply decide_eq_decide.mpr
      constructor
      · intro h
        rcases Int.lt_trichotomy (a + b) 0 with h' | h' | h'
        · exact h'
        · exact absurd h' h0
        · have := Int.mul_pos h' hP
          omega
      · intro h; exact Int.mul_neg_of_neg_of_pos h hP
theorem Fl.neg {y : UInt64} {b : Int} (hy : Fl y b) : Fl (neg y) (-b) := by
  obtain ⟨⟨s, m, e, dy⟩, vy⟩ := hy
  exact ⟨⟨_, _, _, neg_decode dy⟩, by rw [neg_val dy, vy, Int.neg_mul]⟩
theorem Fl.sub {x y : UInt64} {a b : Int} (hx : Fl x a) (hy : Fl y b) (hb : (a - b).natAbs < 2 ^ 53) : Fl (sub x y) (a - b) := by
  have := hx.add hy.neg (by rw [← Int.sub_eq_add_neg]; exact hb)
  rw [← Int.sub_eq_add_neg] at this
  unfold Float64.sub
  exact this
theorem xor_sign {a b : Int} (ha : a ≠ 0) (hb : b ≠ 0) : (decide (a < 0) != decide (b < 0)) = decide (a * b < 0) := by
  rcases Int.lt_trichotomy a 0 with h | h | h <;> rcases Int.lt_trichotomy b 0 with h' | h' | h' <;> try contradiction
  · have := Int.mul_pos_of_neg_of_neg h h'
    simp [h, h']; omega
  · have := Int.mul_neg_of_neg_of_pos h h'
    simp [h, this]; omega
  · have := Int.mul_neg_of_pos_of_neg h h'
    simp [h', this]; omega
  · have := Int.mul_pos h h'
    have e1 : ¬ a < 0 := by omega
    have e2 : ¬ b < 0 := by omega
    have e3 : ¬ a * b < 0 := by omega
    simp [e1, e2, e3]
theorem pow_split : (2 : Nat) ^ 1056 * 2 ^ 18 = 2 ^ 1074 := by rw [← Nat.pow_add]
theorem Fl.mul {x y : UInt64} {a b c : Int} (hx : Fl x a) (hy : Fl y b) (hc : a * b = c * 2 ^ 18) (hb : c.natAbs < 2 ^ 53) : Fl (mul x y) c := by
  have ax := hx.abs
  have ay := hy.abs
  obtain ⟨s, m, e, dx⟩ := hx.d
  obtain ⟨s', m', e', dy⟩ := hy.d
  have R := mul_right dx dy
  refine signed (exact_of R (Nat.two_pow_pos _) hb ?_) fun h0 => ?_
  · rw [ax, ay]
    have e1 : a.natAbs * b.natAbs = c.natAbs * 2 ^ 18 := by rw [← Int.natAbs_mul, hc, Int.natAbs_mul]; rfl
    rw [← pow_split]
    generalize (2 : Nat) ^ 1056 = P
    calc a.natAbs * P * (b.natAbs * P) = (a.natAbs * b.natAbs) * (P * P) := by ac_rfl
      _ = P * 2 ^ 18 * (c.natAbs * P) := by rw [e1]; ac_rfl
  · have hab : a * b ≠ 0 := by rw [hc]; omega
    have ha : a ≠ 0 := by rintro rfl; simp at hab
    have hb' : b ≠ 0 := by rintro rfl; simp at hab
    rw [hx.sign dx ha, hy.sign dy hb', xor_sign ha hb', hc]
    apply decide_eq_decide.mpr
    omega
theorem Fl.div {x y : UInt64} {a b c : Int} (hx : Fl x a) (hy : Fl y b) (h0 : b ≠ 0) (hc : a * 2 ^ 18 = c * b) (hb : c.natAbs < 2 ^ 53) : Fl (div x y) c := by
  have ax := hx.abs
  have ay := hy.abs
  obtain ⟨s, m, e, dx⟩ := hx.d
  obtain ⟨s', m', e', dy⟩ := hy.d
  have hk : m' ≠ 0 := by
    rintro rfl
    rw [val_natAbs dy, Nat.zero_mul] at ay
    have : 0 < b.natAbs * 2 ^ 1056 := Nat.mul_pos (by omega) P_pos
    omega
  have R := div_right dx dy hk
  have hbp : 0 < b.natAbs := by omega
  refine signed (exact_of R (by rw [ay]; exact Nat.mul_pos hbp P_pos) hb ?_) fun hc0 => ?_
  · rw [ax, ay]
    have e1 : a.natAbs * 2 ^ 18 = c.natAbs * b.natAbs := by
      have := congrArg Int.natAbs hc
      rwa [Int.natAbs_mul, Int.natAbs_mul] at this
    rw [← pow_split]
    generalize (2 : Nat) ^ 1056 = P
    calc a.natAbs * P * (P * 2 ^ 18) = (a.natAbs * 2 ^ 18) * (P * P) := by ac_rfl
      _ = b.natAbs * P * (c.natAbs * P) := by rw [e1]; ac_rfl
  · have ha : a ≠ 0 := by
      rintro rfl
      rw [Int.zero_mul] at hc
      exact Int.mul_ne_zero hc0 h0 hc.symm
    rw [hx.sign dx ha, hy.sign dy h0]
    have h2 := xor_sign ha h0
    have h3 := xor_sign hc0 h0
    rcases Int.lt_trichotomy b 0 with hbn | hbn | hbn
    · have e1 : (c < 0) ↔ ¬ (a < 0) := by
        constructor
        · intro h h'
          have := Int.mul_pos_of_neg_of_neg h hbn
          omega
        · intro h
          rcases Int.lt_trichotomy c 0 with h' | h' | h'
          · exact h'
          · exact absurd h' hc0
          · have := Int.mul_neg_of_pos_of_neg h' hbn
            omega
      by_cases ha' : a < 0 <;> simp [ha', hbn, e1]
    · exact absurd hbn h0
    · have e1 : (c < 0) ↔ (a < 0) := by
        constructor
        · intro h
          have := Int.mul_neg_of_neg_of_pos h hbn
          omega
        · intro h
          rcases Int.lt_trichotomy c 0 with h' | h' | h'
          · exact h'
          · exact absurd h' hc0
          · have := Int.mul_pos h' hbn
            omega
      have hb2 : ¬ b < 0 := by omega
      by_cases ha' : a < 0 <;> simp [ha', hb2, e1]
theorem Fl.ofFrac {a b : Int} {c : Int} (h0 : b ≠ 0) (hc : a * 2 ^ 18 = c * b) (hb : c.natAbs < 2 ^ 53) : Fl (ofFrac (decide (a < 0) != decide (b < 0)) a.natAbs b.natAbs) c := by
  have e1 : a.natAbs * 2 ^ 18 = c.natAbs * b.natAbs := by
    have := congrArg Int.natAbs hc
    rwa [Int.natAbs_mul, Int.natAbs_mul] at this
  have R : Right (Float64.ofFrac (decide (a < 0) != decide (b < 0)) a.natAbs b.natAbs) (decide (a < 0) != decide (b < 0)) (a.natAbs * 2 ^ 1074) b.natAbs :=
    ofFrac_right (by omega) rfl (by omega)
  refine signed (exact_of R (by omega) hb ?_) fun hc0 => ?_
  · rw [← pow_split]
    generalize (2 : Nat) ^ 1056 = P
    calc a.natAbs * (P * 2 ^ 18) = (a.natAbs * 2 ^ 18) * P := by ac_rfl
      _ = b.natAbs * (c.natAbs * P) := by rw [e1]; ac_rfl
  · have ha : a ≠ 0 := by
      rintro rfl
      rw [Int.zero_mul] at hc
      exact Int.mul_ne_zero hc0 h0 hc.symm
    rcases Int.lt_trichotomy b 0 with hbn | hbn | hbn
    · have e1 : (c < 0) ↔ ¬ (a < 0) := by
        constructor
        · intro h h'
          have := Int.mul_pos_of_neg_of_neg h hbn
          omega
        · intro h
          rcases Int.lt_trichotomy c 0 with h' | h' | h'
          · exact h'
          · exact absurd h' hc0
          · have := Int.mul_neg_of_pos_of_neg h' hbn
            omega
      by_cases ha' : a < 0 <;> simp [ha', hbn, e1]
    · exact absurd hbn h0
    · have e1 : (c < 0) ↔ (a < 0) := by
        constructor
        · intro h
          have := Int.mul_neg_of_neg_of_pos h hbn
          omega
        · intro h
          rcases Int.lt_trichotomy c 0 with h' | h' | h'
          · exact h'
          · exact absurd h' hc0
          · have := Int.mul_pos h' hbn
            omega
      have hb2 : ¬ b < 0 := by omega
      by_cases ha' : a < 0 <;> simp [ha', hb2, e1]
theorem Fl.ofInt {i : Int} (h : i.natAbs < 2 ^ 35) : Fl (ofInt i) (i * 2 ^ 18) := by
  have := Fl.ofFrac (a := i) (b := 1) (c := i * 2 ^ 18) (by decide) (by omega) (by rw [Int.natAbs_mul]; exact Nat.lt_of_lt_of_le (Nat.mul_lt_mul_of_pos_right h (by decide)) (by decide))
  have e : (decide (i < 0) != decide ((1 : Int) < 0)) = decide (i < 0) := by simp
  rw [e] at this
  unfold Float64.ofInt
  exact this
theorem Fl.fin {x : UInt64} {a : Int} (h : Fl x a) : isFinite x = true := by
  obtain ⟨s, m, e, d⟩ := h.d
  unfold isFinite; rw [d]
theorem Fl.noInf {x : UInt64} {a : Int} (h : Fl x a) : isInf x = false := by
  obtain ⟨s, m, e, d⟩ := h.d
  unfold isInf; rw [d]
theorem Fl.cmp {x y : UInt64} {a b : Int} (hx : Fl x a) (hy : Fl y b) : Float64.cmp x y = some (compare a b) := by
  obtain ⟨s, m, e, dx⟩ := hx.d
  obtain ⟨s', m', e', dy⟩ := hy.d
  rw [cmp_right dx dy, hx.v, hy.v]
  have hP : (0 : Int) < ((2 ^ 1056 : Nat) : Int) := Int.ofNat_lt.mpr P_pos
  generalize ((2 ^ 1056 : Nat) : Int) = P at hP
  congr 1
  rcases Int.lt_trichotomy a b with h | h | h
  · rw [Int.compare_eq_lt.mpr h, Int.compare_eq_lt.mpr (Int.mul_lt_mul_of_pos_right h hP)]
  · subst h; simp
  · rw [Int.compare_eq_gt.mpr h, Int.compare_eq_gt.mpr (Int.mul_lt_mul_of_pos_right h hP)]
theorem Fl.isZero {x : UInt64} {a : Int} (h : Fl x a) : isZero x = decide (a = 0) := by
  obtain ⟨s, m, e, d⟩ := h.d
  have hv := h.v
  rw [val_eq d] at hv
  have hP : (0 : Int) < ((2 ^ 1056 : Nat) : Int) := Int.ofNat_lt.mpr P_pos
  have hm : m = 0 ↔ a = 0 := by
    have h2 := congrArg Int.natAbs hv
    rw [sgn_natAbs, Int.natAbs_mul, Int.natAbs_natCast] at h2
    constructor
    · rintro rfl
      rw [Nat.zero_mul] at h2
      have := Nat.mul_eq_zero.mp h2.symm
      have := P_pos
      omega
    · rintro rfl
      rw [Int.natAbs_zero, Nat.zero_mul] at h2
      have := Nat.mul_eq_zero.mp h2
      have : 0 < 2 ^ (e + 1074).toNat := Nat.two_pow_pos _
      omega
  unfold Float64.isZero
  rw [d]
  by_cases h0 : a = 0
  · rw [hm.mpr h0]; simp [h0]
  · have : m ≠ 0 := fun h => h0 (hm.mp h)
    cases m with
    | zero => exact absurd rfl this
    | succ n => simp [h0]
end Mine
end

section
open PySem PySem.Spec PySem.Calls PySem.W PyProof.Rows
set_option Elab.async false
namespace Mine
open PySem.Float64
/-- fsum's partials -/
def PS (ps : List UInt64) (c : Int) : Prop := (ps = [] ∧ c = 0) ∨ ∃ t, ps = [t] ∧ Fl t c
theorem Fl.cast {x : UInt64} {a b : Int} (h : Fl x a) (e : a = b) : Fl x b := e ▸ h
theorem fsum_step {ps : List UInt64} {x : UInt64} {c a : Int} (hp : PS ps c) (hx : Fl x a) (ha : a.natAbs < 2 ^ 53) (hc : c.natAbs < 2 ^ 53) (hs : (c + a).natAbs < 2 ^ 53) :
    isFinite (fsumAdd ps x).2 = true ∧ PS (if isZero (fsumAdd ps x).2 then (fsumAdd ps x).1 else (fsumAdd ps x).1 ++ [(fsumAdd ps x).2]) (c + a) := by
  have key : (fsumAdd ps x).1 = [] ∧ Fl (fsumAdd ps x).2 (c + a) := by
    rcases hp with ⟨rfl, rfl⟩ | ⟨t, rfl, ht⟩
    · exact ⟨rfl, hx.cast (by omega)⟩
    · have main : ∀ {u v : UInt64} {p q : Int}, Fl u p → Fl v q → p.natAbs < 2 ^ 53 → q.natAbs < 2 ^ 53 → (p + q).natAbs < 2 ^ 53 →
          isZero (Float64.sub v (Float64.sub (Float64.add u v) u)) = true ∧ Fl (Float64.add u v) (p + q) := by
        intro u v p q hu hv hp' hq' hpq
        have h1 := hu.add hv hpq
        have h2 := h1.sub hu (by rw [show p + q - p = q by omega]; exact hq')
        have h3 := hv.sub h2 (by rw [show q - (p + q - p) = 0 by omega]; decide)
        exact ⟨by rw [h3.isZero]; simp; omega, h1⟩
      unfold fsumAdd
      by_cases hl : lt (abs x) (abs t) = true
      · simp only [hl, if_true]
        obtain ⟨h1, h2⟩ := main ht hx hc ha hs
        simp only [fsumAdd, h1, if_true]
        exact ⟨trivial, h2⟩
      · simp only [hl]
        obtain ⟨h1, h2⟩ := main hx ht ha hc (by rw [Int.add_comm]; exact hs)
        simp only [fsumAdd]
        simp only [Bool.false_eq_true, if_false]
        rw [h1]
        exact ⟨rfl, h2.cast (Int.add_comm _ _)⟩
  refine ⟨key.2.fin, ?_⟩
  rw [key.1]
  have hz := key.2.isZero
  by_cases h0 : c + a = 0
  · rw [if_pos (by rw [hz]; simp [h0])]
    exact .inl ⟨rfl, h0⟩
  · rw [if_neg (by rw [hz]; simp [h0])]
    exact .inr ⟨_, rfl, key.2⟩
theorem fsum_end {ps : List UInt64} {c : Int} (h : PS ps c) : Fl (fsumEnd ps) c := by
  rcases h with ⟨rfl, rfl⟩ | ⟨t, rfl, ht⟩
  · exact Fl.zero false
  · exact ht
theorem Fl.fma0 {x y z : UInt64} {a b d : Int} (hx : Fl x a) (hy : Fl y b) (hz : Fl z (-d)) (hd : a * b = d * 2 ^ 18) : Fl (fma x y z) 0 := by
  have vx := hx.v
  have vy := hy.v
  have vz := hz.v
  obtain ⟨s, m, e, dx⟩ := hx.d
  obtain ⟨s', k, f, dy⟩ := hy.d
  obtain ⟨s'', n, g, dz⟩ := hz.d
  have he := decode_ge dx
  have hf := decode_ge dy
  have hg := decode_ge dz
  rw [val_eq dx] at vx
  rw [val_eq dy] at vy
  rw [val_eq dz] at vz
  have hkey : sgn (s != s') (m * k * 2 ^ (e + f - min (e + f) g).toNat) + sgn s'' (n * 2 ^ (g - min (e + f) g).toNat) = 0 := by
    have hpos : (0 : Int) < ((2 ^ (min (e + f) g + 2148).toNat : Nat) : Int) := Int.ofNat_lt.mpr (Nat.two_pow_pos _)
    have h1 : sgn (s != s') (m * k * 2 ^ (e + f - min (e + f) g).toNat) * ((2 ^ (min (e + f) g + 2148).toNat : Nat) : Int) = sgn s (m * 2 ^ (e + 1074).toNat) * sgn s' (k * 2 ^ (f + 1074).toNat) := by
      rw [← sgn_mul, Nat.mul_assoc, ← Nat.pow_add]
      have e1 : (e + f - min (e + f) g).toNat + (min (e + f) g + 2148).toNat = (e + 1074).toNat + (f + 1074).toNat := by omega
      rw [e1, Nat.pow_add]
      have e2 : m * k * (2 ^ (e + 1074).toNat * 2 ^ (f + 1074).toNat) = (m * 2 ^ (e + 1074).toNat) * (k * 2 ^ (f + 1074).toNat) := by ac_rfl
      rw [e2]
      generalize m * 2 ^ (e + 1074).toNat = p
      generalize k * 2 ^ (f + 1074).toNat = q
      unfold sgn
      cases s <;> cases s' <;> simp [Int.mul_neg, Int.neg_mul]
    have h2 : sgn s'' (n * 2 ^ (g - min (e + f) g).toNat) * ((2 ^ (min (e + f) g + 2148).toNat : Nat) : Int) = sgn s'' (n * 2 ^ (g + 1074).toNat) * ((2 ^ 1074 : Nat) : Int) := by
      rw [← sgn_mul, ← sgn_mul, Nat.mul_assoc, ← Nat.pow_add, Nat.mul_assoc, ← Nat.pow_add]
      have e1 : (g - min (e + f) g).toNat + (min (e + f) g + 2148).toNat = (g + 1074).toNat + 1074 := by omega
      rw [e1]
    have h3 : (sgn (s != s') (m * k * 2 ^ (e + f - min (e + f) g).toNat) + sgn s'' (n * 2 ^ (g - min (e + f) g).toNat)) * ((2 ^ (min (e + f) g + 2148).toNat : Nat) : Int) = 0 := by
      rw [Int.add_mul, h1, h2, vx, vy, vz, ← pow_split]
      rw [Int.natCast_mul]
      generalize ((2 ^ 1056 : Nat) : Int) = P
      have : a * P * (b * P) = (a * b) * (P * P) := by ac_rfl
      rw [this, hd]
      have : -d * P * (P * ((2 ^ 18 : Nat) : Int)) = -(d * 2 ^ 18 * (P * P)) := by
        rw [show ((2 ^ 18 : Nat) : Int) = 2 ^ 18 from rfl, Int.neg_mul, Int.neg_mul]
        congr 1
        ac_rfl
      rw [this]
      omega
    rcases Int.mul_eq_zero.mp h3 with h | h
    · exact h
    · omega
  have hf : fma x y z = Float64.zero (if m * k == 0 && n == 0 then (s != s') && s'' else false) := by
    unfold fma
    rw [dx, dy, dz]
    exact if_pos (beq_iff_eq.mpr hkey)
  rw [hf]
  exact Fl.zero _
open PySem.Builtin.Math
theorem dl_sum {x y : UInt64} {a b : Int} (hx : Fl x a) (hy : Fl y b) (ha : a.natAbs < 2 ^ 53) (hb : b.natAbs < 2 ^ 53) (hs : (a + b).natAbs < 2 ^ 53) : Fl (dlSum x y).1 (a + b) ∧ Fl (dlSum x y).2 0 := by
  have h1 := hx.add hy hs
  have h2 := h1.sub hx (by rw [show a + b - a = b by omega]; exact hb)
  have h3 := h1.sub h2 (by rw [show a + b - (a + b - a) = a by omega]; exact ha)
  have h4 := hx.sub h3 (by rw [show a - (a + b - (a + b - a)) = 0 by omega]; decide)
  have h5 := hy.sub h2 (by rw [show b - (a + b - a) = 0 by omega]; decide)
  have h6 := h4.add h5 (by rw [show a - (a + b - (a + b - a)) + (b - (a + b - a)) = 0 by omega]; decide)
  exact ⟨h1, h6.cast (by omega)⟩
theorem dl_mul {x y : UInt64} {a b d : Int} (hx : Fl x a) (hy : Fl y b) (hd : a * b = d * 2 ^ 18) (hs : d.natAbs < 2 ^ 53) : Fl (dlMul x y).1 d ∧ Fl (dlMul x y).2 0 := by
  have h1 := hx.mul hy hd hs
  exact ⟨h1, hx.fma0 hy h1.neg hd⟩
structure T3 (t : UInt64 × UInt64 × UInt64) (c : Int) : Prop where
  hi : Fl t.1 c
  lo : Fl t.2.1 0
  ti : Fl t.2.2 0
theorem tl_fma {x y : UInt64} {t : UInt64 × UInt64 × UInt64} {a b c d : Int} (hx : Fl x a) (hy : Fl y b) (ht : T3 t c) (hd : a * b = d * 2 ^ 18) (hb : d.natAbs < 2 ^ 53) (hc : c.natAbs < 2 ^ 53) (hs : (c + d).natAbs < 2 ^ 53) : T3 (tlFma x y t) (c + d) := by
  obtain ⟨h1, h2⟩ := dl_mul hx hy hd hb
  obtain ⟨h3, h4⟩ := dl_sum ht.hi h1 hc hb hs
  obtain ⟨h5, h6⟩ := dl_sum ht.lo h2 (by decide) (by decide) (by decide)
  obtain ⟨h7, h8⟩ := dl_sum h5 h4 (by decide) (by decide) (by decide)
  have h9 := (ht.ti.add h6 (by decide)).add h8 (by decide)
  exact ⟨h3, h7, h9⟩
theorem tl_to {t : UInt64 × UInt64 × UInt64} {c : Int} (ht : T3 t c) (hc : c.natAbs < 2 ^ 53) : Fl (tlToFloat t) c := by
  obtain ⟨h1, h2⟩ := dl_sum ht.lo ht.hi (by decide) hc (by rw [Int.zero_add]; exact hc)
  have h3 := (ht.ti.add h2 (by decide)).add h1 (by rw [show (0 : Int) + 0 + (0 + c) = c by omega]; exact hc)
  exact h3.cast (by omega)
theorem T3.zero : T3 (Float64.zero false, Float64.zero false, Float64.zero false) 0 := ⟨.zero _, .zero _, .zero _⟩
end Mine
end

section
open PySem PySem.Spec PySem.Calls PySem.W PyProof.Rows
set_option Elab.async false
set_option maxRecDepth 100000
namespace Mine
namespace FF
theorem kind_fsum : builtinKind "math.fsum" = none := by decide +kernel
theorem plain_fsum : plainId "math.fsum" = true := by decide +kernel
theorem entry_fsum : entryFor table "math.fsum" = some Builtin.«math.fsum» := entryFor_of_fast (by kernel_rfl)
theorem args_fsum (a : Value) : argsOk "math.fsum" ⟨[a], []⟩ := by unfold argsOk; kernel_rfl
theorem plain_fsum_loop : plainId "math.fsum.loop" = true := by decide +kernel
theorem entry_fsum_loop : entryFor table "math.fsum.loop" = some Builtin.«math.fsum.loop» := entryFor_of_fast (by kernel_rfl)
theorem kind_sumprod : builtinKind "math.sumprod" = none := by decide +kernel
theorem plain_sumprod : plainId "math.sumprod" = true := by decide +kernel
theorem entry_sumprod : entryFor table "math.sumprod" = some Builtin.«math.sumprod» := entryFor_of_fast (by kernel_rfl)
theorem args_sumprod (a b : Value) : argsOk "math.sumprod" ⟨[a, b], []⟩ := by unfold argsOk; kernel_rfl
theorem plain_sumprod_loop : plainId "math.sumprod.loop" = true := by decide +kernel
theorem entry_sumprod_loop : entryFor table "math.sumprod.loop" = some Builtin.«math.sumprod.loop» := entryFor_of_fast (by kernel_rfl)
end FF
end Mine
end

section
open PySem PySem.Spec PySem.Calls PySem.W PyProof.Rows
set_option Elab.async false
set_option maxRecDepth 100000
namespace Mine
theorem bits_back (ps : List UInt64) (f : Value → UInt64) (hf : ∀ x : UInt64, f (rawInt x.toNat) = x) : List.map f (((some (ps.map fun x => rawInt x.toNat).toArray).getD #[]).toList) = ps := by
  show List.map f ((ps.map fun x => rawInt x.toNat).toArray.toList) = ps
  rw [List.toList_toArray, List.map_map]
  conv => rhs; rw [← List.map_id ps]
  exact List.map_congr_left fun x _ => hf x
theorem bits_one (x : UInt64) : ((x.toNat : Int)).toNat.toUInt64 = x := by
  rw [Int.toNat_natCast]
  exact UInt64.ofNat_toNat
/-- a number, int or float, that is c * 2^-18 -/
def NumV (v : Value) (c : Int) : Prop := (∃ x t, v = .float x t ∧ Fl x c) ∨ ∃ i t, v = .int i t ∧ i.natAbs < 2 ^ 35 ∧ c = i * 2 ^ 18
def FltV (v : Value) (c : Int) : Prop := ∃ x t, v = .float x t ∧ Fl x c
theorem not_over {i : Int} (h : i.natAbs < 2 ^ 35) : ¬ Flt.Over i := by
  intro h2
  have h3 : 2 ^ 35 ≤ 2 ^ 1024 - 2 ^ 970 := by decide +kernel
  exact absurd (Nat.lt_of_lt_of_le h (Nat.le_trans h3 h2)) (Nat.lt_irrefl _)
section
variable {prog : Program} {w : World} {A : Around} {R : Result → Shared → Prop} {I : Addr} {fp wr : List Addr} {n : Nat} {P : Nat → Value → Prop} {St : Nat → Heap → Prop}
theorem realArg_num {E : Value → Shared → Prop} {s : Shared} {v : Value} {c : Int} {Q : UInt64 → Shared → Prop} (hh : A.handled = none) (hv : NumV v c) (hQ : ∀ x t, Fl x c → Q x { s with toks := t }) :
    wpAny (model prog w) A (Builtin.Math.realArg v) Q E s := by
  rcases hv with ⟨x, t, rfl, hx⟩ | ⟨i, t, rfl, hi, rfl⟩
  · exact wpAny_pure (hQ x s.toks hx)
  · exact Flt.realArg_int hh (fun h => absurd h (not_over hi)) fun _ => hQ _ _ (Fl.ofInt hi)
theorem fsum_loop (hh : A.handled = none) (W : Walks prog w A.in1 I fp wr n P St) (fl : Nat → Int) (hval : ∀ i v, i < n → P i v → NumV v (fl i)) (hb : ∀ i, i < n → (fl i).natAbs < 2 ^ 53) (hb2 : ∀ i, i ≤ n → (preSum fl i).natAbs < 2 ^ 53) (sp : Addr) (hsp : sp ∉ wr) (hlive : ∀ i h, St i h → ∀ b ∈ wr, ∃ o, h.get? b = some o) :
    ∀ (k i : Nat) (s : Shared) (p : Addr) (ps : List UInt64), n - i = k → i ≤ n → St i s.heap → s.heap.get? p = some (tup (ps.map fun x => rawInt x.toNat).toArray) → PS ps (preSum fl i) → p ∉ wr →
    s.heap.get? sp = some (tup ([Float64.zero false, Float64.zero false].map fun x => rawInt x.toNat).toArray) →
    (∀ h' tk x t, (∀ b o, b ∉ wr → s.heap.get? b = some o → h'.get? b = some o) → Fl x (preSum fl n) → R (.ok (.ret (.float x t))) { s with heap := h', toks := tk }) →
    codeAny (model prog w) A (.builtin "math.fsum.loop" ⟨[.ref I, .ref p, .ref sp], []⟩) R s := by
  intro k
  induction k with
  | zero =>
    intro i s p ps hk hi hst hp hps hpw hs hR
    have hin : i = n := by omega
    subst hin
    refine codeAny_builtin FF.entry_fsum_loop ?_
    rw [Around.under_plainId FF.plain_fsum_loop _]
    refine wpAny_bind (wpAny_bind (wpAny_seqItems hp rfl (wpAny_pure ?_)))
    refine wpAny_bind (wpAny_bind (wpAny_seqItems hs rfl (wpAny_pure ?_)))
    refine wpAny_bind (W.done s _ _ hst fun h' tk hk' => ?_)
    show wpAny _ _ (if (!Float64.isZero ((((Float64.zero false).toNat : Int)).toNat.toUInt64)) = true then _ else _) _ _ _
    rw [bits_one, if_neg (by decide +kernel)]
    rw [bits_back ps _ bits_one]
    exact wpAny_bind (wpAny_mkFloat (wpAny_pure (hR h' _ _ _ hk' (fsum_end hps))))
  | succ k ih =>
    intro i s p ps hk hi hst hp hps hpw hs hR
    have hlt : i < n := by omega
    refine codeAny_builtin FF.entry_fsum_loop ?_
    rw [Around.under_plainId FF.plain_fsum_loop _]
    refine wpAny_bind (wpAny_bind (wpAny_seqItems hp rfl (wpAny_pure ?_)))
    refine wpAny_bind (wpAny_bind (wpAny_seqItems hs rfl (wpAny_pure ?_)))
    refine wpAny_bind (W.item i s _ _ hlt hst fun v h' tk hP hst' hk' => ?_)
    refine wpAny_bind (wpAny_holding (realArg_num hh (hval i v hlt hP) fun x t hx => ?_))
    rw [bits_back ps _ bits_one]
    obtain ⟨h1, h2⟩ := fsum_step hps hx (hb i hlt) (hb2 i (Nat.le_of_lt hlt)) (hb2 (i + 1) hlt)
    show wpAny _ _ (if Float64.isFinite (Float64.fsumAdd ps x).2 = true then _ else _) _ _ _
    rw [if_pos h1]
    have hl1 : ∀ {l : List UInt64} {c : Int}, PS l c → l.length ≤ 1 := by
      rintro l c (⟨rfl, _⟩ | ⟨t, rfl, _⟩) <;> simp
    refine wpAny_bind (wpAny_newTuple ?_ (by rw [List.length_map]; exact Nat.le_trans (hl1 h2) (by decide)))
    refine wpAny_pure ⟨plainId_quiet FF.plain_fsum_loop _, ih (i + 1) _ _ _ (by omega) hlt (W.frame _ _ _ hst' fun b _ o e => Heap.get?_push_of_some _ e) (Heap.get?_push_size _ rfl) h2 ?_ (Heap.get?_push_of_some _ (hk' _ _ hsp hs)) fun h'' tk'' x'' t'' hk'' hx'' => ?_⟩
    · intro hm
      obtain ⟨o, e⟩ := hlive _ _ hst' _ hm
      exact Nat.lt_irrefl _ (Heap.lt_size e)
    · exact hR h'' tk'' x'' t'' (fun b o hb e => hk'' b o hb (Heap.get?_push_of_some _ (hk' b o hb e))) hx''
theorem natAbs_sum_le : ∀ {cs : List Int} {M : Nat}, (∀ c ∈ cs, c.natAbs ≤ M) → cs.sum.natAbs ≤ cs.length * M
  | [], _, _ => by simp
  | c :: r, M, h => by
    have h1 := h c (.head _)
    have h2 := natAbs_sum_le fun c hc => h c (.tail _ hc)
    rw [List.sum_cons, List.length_cons, Nat.succ_mul]
    have := Int.natAbs_add_le c r.sum
    omega
def LN (h : Heap) (l : Addr) (cs : List Int) : Prop := ∃ ys, h.PlainList l ys ∧ Paired (fun c y => NumV y c) cs ys.toList
theorem Kp.ln {h h' : Heap} (k : Kp h h') {l is} (x : LN h l is) : LN h' l is := let ⟨ys, a, b⟩ := x; ⟨ys, k.list a, b⟩
theorem call_fsum {E : Value → Shared → Prop} {s s₀ : Shared} {h : Heap} {Q : Value → Shared → Prop} {l : Addr} {cs : List Int} {M : Nat} (z : At s₀ h s) (hh : A.handled = none) (hl : LN h l cs) (hb : ∀ c ∈ cs, c.natAbs ≤ M) (hM : (cs.length + 1) * M < 2 ^ 53)
    (hQ : ∀ h' s' x t, At s₀ h' s' → Kp h h' → Fl x cs.sum → Q (.float x t) s') : wpAny (model prog w) A (call (.builtin "math.fsum") [.ref l]) Q E s := by
  have hz := z.hp
  subst hz
  obtain ⟨ys, pl, pr⟩ := hl
  have hlen := pr.length
  have hsz : ys.size = cs.length := by rw [← Array.length_toList, ← hlen]
  refine call_function_tree FF.kind_fsum FF.plain_fsum FF.entry_fsum (FF.args_fsum _) ?_
  refine wpAny_bind (wpAny_of_eq (a := .ref l) rfl ?_)
  refine wpAny_bind (wpAny_pyIter_list pl.isList ?_)
  refine wpAny_bind (wpAny_newTuple ?_ (by decide))
  refine wpAny_bind (wpAny_newTuple ?_ (by decide))
  have hlt := natlt (Heap.lt_size (pl.choose_spec))
  have hz1 : (s.heap.push { cls := .type "list_iterator", data := .fields #[.ref l, .int 0 0] }).objs.size = s.heap.objs.size + 1 := Heap.size_push ..
  refine wpAny_pure ⟨plainId_quiet FF.plain_fsum_loop _, ?_⟩
  refine fsum_loop (ps := []) hh (Walks.list (A := A.in1) hh s.heap.objs.size l (Nat.ne_of_lt hlt) ys) (fun i => cs.getD i 0) (fun i v hi hv => ?_) (fun i hi => ?_) (fun i hi => ?_) _ ?_ ?_ ys.size 0 _ _ rfl (Nat.zero_le _) ?_ (Heap.get?_push_of_some _ (Heap.get?_push_size _ rfl)) (.inl ⟨rfl, rfl⟩) ?_ (Heap.get?_push_size _ rfl) (fun h' tk x t hk hx => ?_)
  · obtain ⟨c, hc, hn⟩ := Paired.get' pr i v (by simpa using hv)
    show NumV v (cs.getD i 0)
    rw [List.getD_eq_getElem?_getD, hc]
    exact hn
  · have hi' : i < cs.length := by omega
    have : cs.getD i 0 ∈ cs := by
      rw [List.getD_eq_getElem?_getD, List.getElem?_eq_getElem hi']
      exact List.getElem_mem hi'
    have h1 := hb _ this
    have h2 : M ≤ (cs.length + 1) * M := Nat.le_mul_of_pos_left _ (by omega)
    exact Nat.lt_of_le_of_lt (Nat.le_trans h1 h2) hM
  · rw [preSum_list]
    have h1 := natAbs_sum_le (cs := cs.take i) (M := M) fun c hc => hb c (List.mem_of_mem_take hc)
    have h2 : (cs.take i).length * M ≤ (cs.length + 1) * M := Nat.mul_le_mul_right _ (by rw [List.length_take]; omega)
    exact Nat.lt_of_le_of_lt (Nat.le_trans h1 h2) hM
  · rw [Heap.size_push, hz1]
    intro hm
    have := List.mem_singleton.mp hm
    exact absurd this (Nat.ne_of_gt (by show @LT.lt Nat _ _ _; omega))
  · rintro i h ⟨⟨o, ho, _⟩, _⟩ b hb'
    rw [List.mem_singleton.mp hb']
    exact ⟨o, ho⟩
  · exact ⟨⟨_, Heap.get?_push_of_some _ (Heap.get?_push_of_some _ (Heap.get?_push_size _ rfl)), rfl, rfl⟩, ((((Kp.push _ _).trans (.push _ _)).trans (.push _ _)).list pl).isList⟩
  · rw [hz1]
    intro hm
    have := List.mem_singleton.mp hm
    exact absurd this (Nat.ne_of_gt (by show @LT.lt Nat _ _ _; omega))
  · have e : preSum (fun i => cs.getD i 0) ys.size = cs.sum := by
      rw [preSum_list, List.take_of_length_le (by omega)]
    rw [e] at hx
    have k : ∀ b o, s.heap.get? b = some o → h'.get? b = some o := fun b o e' => hk b o (fun hm => by
      rw [List.mem_singleton.mp hm] at e'
      exact absurd (Heap.lt_size e') (Nat.lt_irrefl _)) (Heap.get?_push_of_some _ (Heap.get?_push_of_some _ (Heap.get?_push_of_some _ e')))
    exact hQ h' _ x t (z.to (.keep k)) (.of k) hx
end
end Mine
end

section
open PySem PySem.Spec PySem.Calls PySem.W PyProof.Rows
set_option Elab.async false
set_option maxRecDepth 100000
namespace Mine
def Mv (wr : List Addr) (s s' : Shared) : Prop := Sm s s' ∧ ∀ b o, b ∉ wr → s.heap.get? b = some o → s'.heap.get? b = some o
/-- two iterators drawn from turn by turn -/
structure Duo (prog : Program) (w : World) (A : Around) (I K : Addr) (n : Nat) (V : Nat → Value → Value → Prop) (wr : List Addr) (St : Nat → Shared → Prop) : Prop where
  item : ∀ i (s : Shared) (Q : Option Value → Option Value → Shared → Prop) (E : Value → Shared → Prop), i < n → St i s → (∀ a b s', V i a b → St (i + 1) s' → Mv wr s s' → Q (some a) (some b) s') →
    wpAny (model prog w) A (pyNext (.ref I)) (fun p s₁ => wpAny (model prog w) A (holding p.toList (pyNext (.ref K))) (fun q s₂ => Q p q s₂) E s₁) E s
  done : ∀ (s : Shared) (Q : Option Value → Option Value → Shared → Prop) (E : Value → Shared → Prop), St n s → (∀ s', Mv wr s s' → Q none none s') →
    wpAny (model prog w) A (pyNext (.ref I)) (fun p s₁ => wpAny (model prog w) A (holding p.toList (pyNext (.ref K))) (fun q s₂ => Q p q s₂) E s₁) E s
  push : ∀ i (s : Shared) h' tk, St i s → s.toks ≤ tk → (∀ b o, s.heap.get? b = some o → h'.get? b = some o) → St i { s with heap := h', toks := tk }
  top : ∀ i (s : Shared), St i s → ∀ b ∈ wr, b < s.heap.objs.size
section
variable {prog : Program} {w : World} {A : Around} {E : Value → Shared → Prop} {s : Shared} {a b : Value} {ca cb c : Int} {Q : Value → Shared → Prop}
theorem nadd0 {t u : Tok} {x : UInt64} (hx : Fl x c) (hc : c.natAbs < 2 ^ 53) (q : ∀ x t k, Fl x c → Q (.float x t) { s with toks := k }) : wpAny (model prog w) A (binaryOp .Add (.int 0 t) (.float x u)) Q E s := by
  have h0 := Fl.ofInt (i := 0) (by decide)
  have h1 := (h0.add hx (by rw [show (0 : Int) * 2 ^ 18 + c = c by omega]; exact hc)).cast (show (0 : Int) * 2 ^ 18 + c = c by omega)
  exact PySem.AutoFloatOps.add_if_1 (by rw [h0.noInf]; decide) (q _ _ _ h1)
theorem nsub (ha : NumV a ca) (hb : FltV b cb) (hc : (ca - cb).natAbs < 2 ^ 53) (q : ∀ x t k, Fl x (ca - cb) → Q (.float x t) { s with toks := k }) : wpAny (model prog w) A (binaryOp .Sub a b) Q E s := by
  obtain ⟨y, u, rfl, hy⟩ := hb
  rcases ha with ⟨x, t, rfl, hx⟩ | ⟨i, t, rfl, hi, rfl⟩
  · exact PySem.AutoFloatOps.sub_0 (q _ _ _ (hx.sub hy hc))
  · have h0 := Fl.ofInt hi
    exact PySem.AutoFloatOps.sub_if_1 (by rw [h0.noInf]; decide) (q _ _ _ (h0.sub hy hc))
theorem ndiv (ha : NumV a ca) (hb : FltV b cb) (h0 : cb ≠ 0) (hd : ca * 2 ^ 18 = c * cb) (hc : c.natAbs < 2 ^ 53) (q : ∀ x t k, Fl x c → Q (.float x t) { s with toks := k }) : wpAny (model prog w) A (binaryOp .Div a b) Q E s := by
  obtain ⟨y, u, rfl, hy⟩ := hb
  have hz : ¬ Float64.isZero y = true := by rw [hy.isZero]; simpa using h0
  rcases ha with ⟨x, t, rfl, hx⟩ | ⟨i, t, rfl, hi, rfl⟩
  · exact PySem.AutoFloatOps.truediv_1 hz (q _ _ _ (hx.div hy h0 hd hc))
  · have h1 := Fl.ofInt hi
    exact PySem.AutoFloatOps.truediv_if_2 (by rw [h1.noInf]; decide) hz (q _ _ _ (h1.div hy h0 hd hc))
theorem ndivi (ha : FltV a ca) {i : Int} {u : Tok} (hi : i.natAbs < 2 ^ 35) (h0 : i ≠ 0) (hd : ca = c * i) (hc : c.natAbs < 2 ^ 53) (q : ∀ x t k, Fl x c → Q (.float x t) { s with toks := k }) : wpAny (model prog w) A (binaryOp .Div a (.int i u)) Q E s := by
  obtain ⟨y, t, rfl, hy⟩ := ha
  have h1 := Fl.ofInt hi
  have h2 : i * 2 ^ 18 ≠ 0 := by omega
  exact PySem.AutoFloatOps.truediv_fi_2 (by rw [h1.noInf]; decide) (by rw [h1.isZero]; simpa using h2) (q _ _ _ (hy.div h1 h2 (by rw [hd, Int.mul_assoc]) hc))
theorem ndivii {i j : Int} {t u : Tok} (h0 : j ≠ 0) (hd : i * 2 ^ 18 = c * j) (hc : c.natAbs < 2 ^ 53) (q : ∀ x t k, Fl x c → Q (.float x t) { s with toks := k }) : wpAny (model prog w) A (binaryOp .Div (.int i t) (.int j u)) Q E s := by
  have h1 := Fl.ofFrac h0 hd hc
  exact PySem.AutoIntOps.truediv_2 (by simpa using h0) (by rw [h1.noInf]; decide) (q _ _ _ h1)
end
abbrev tri (t : UInt64 × UInt64 × UInt64) : Obj := tup #[rawInt t.1.toNat, rawInt t.2.1.toNat, rawInt t.2.2.toNat]
section
variable {prog : Program} {w : World} {A : Around} {R : Result → Shared → Prop} {I K : Addr} {wr : List Addr} {n : Nat} {St : Nat → Shared → Prop}
theorem sumprod_loop_f (f g d : Nat → Int) (D : Duo prog w A.in1 I K n (fun i a b => FltV a (f i) ∧ NumV b (g i)) wr St)
    (hd : ∀ i, i < n → f i * g i = d i * 2 ^ 18) (hb : ∀ i, i < n → (d i).natAbs < 2 ^ 53) (hb2 : ∀ i, i ≤ n → (preSum d i).natAbs < 2 ^ 53) :
    ∀ (k i : Nat) (s : Shared) (t : Addr) (tr : UInt64 × UInt64 × UInt64) (t0 : Tok) (io fu : Bool), n - i = k → i ≤ n → St i s → s.heap.get? t = some (tri tr) → t ∉ wr → T3 tr (preSum d i) → (fu = true ∨ i < n) →
    (∀ s' x t', Mv wr s s' → Fl x (preSum d n) → R (.ok (.ret (.float x t'))) s') →
    codeAny (model prog w) A (.builtin "math.sumprod.loop" ⟨[.ref I, .ref K, .int 0 t0, .bool io, rawInt 0, .bool false, .bool true, .ref t, .bool fu], []⟩) R s := by
  intro k
  induction k with
  | zero =>
    intro i s t tr t0 io fu hk hi hst ht htw h3 hfu hR
    have hin : i = n := by omega
    subst hin
    have hfu' : fu = true := by
      rcases hfu with h | h
      · exact h
      · omega
    subst hfu'
    refine codeAny_builtin FF.entry_sumprod_loop ?_
    rw [Around.under_plainId FF.plain_sumprod_loop _]
    refine wpAny_bind (wpAny_seqItems ht rfl ?_)
    refine wpAny_bind (wpAny_mono (D.done s (fun p q s₁ => p = none ∧ q = none ∧ Mv wr s s₁) _ hst fun s' m => ⟨rfl, rfl, m⟩) (fun p s₁ h₁ => wpAny_bind (wpAny_mono h₁ (fun q s₂ h₂ => ?_) fun _ _ e => e)) fun _ _ e => e)
    obtain ⟨rfl, rfl, mv⟩ := h₂
    have tail : ∀ s₂, Mv wr s s₂ → wpAny (model prog w) A.in1 (rule "math.sumprod.leaves-floats" >>= fun _ => mkFloat (Builtin.Math.tlToFloat tr) >>= fun x => holding [.int 0 t0] (binaryOp .Add (.int 0 t0) x) >>= fun v => ret v)
        (fun fin s' => match fin with | .done f => R (.ok f) s' | .again c' => c'.quiet = true ∧ codeAny (model prog w) A c' R s') (fun e s' => R (.error e) s') s₂ := by
      intro s₂ mv
      refine wpAny_bind (wpAny_rule (wpAny_bind (wpAny_mkFloat ?_)))
      refine wpAny_bind (wpAny_holding (nadd0 (tl_to h3 (hb2 i (Nat.le_refl _))) (hb2 i (Nat.le_refl _)) fun x t k hx => ?_))
      exact wpAny_pure (hR _ x t ⟨mv.1.trans (.tok _ k), mv.2⟩ hx)
    have e3 : ((((tr.1.toNat : Int)).toNat.toUInt64, ((tr.2.1.toNat : Int)).toNat.toUInt64, ((tr.2.2.toNat : Int)).toNat.toUInt64) : UInt64 × UInt64 × UInt64) = tr := by
      rw [bits_one, bits_one, bits_one]
    rw [e3]
    cases io
    · exact tail _ mv
    · show wpAny _ _ (rule "math.sumprod.leaves-ints" >>= _) _ _ _
      exact wpAny_bind (wpAny_rule (tail _ mv))
  | succ k ih =>
    intro i s t tr t0 io fu hk hi hst ht htw h3 hfu hR
    have hlt : i < n := by omega
    refine codeAny_builtin FF.entry_sumprod_loop ?_
    rw [Around.under_plainId FF.plain_sumprod_loop _]
    refine wpAny_bind (wpAny_seqItems ht rfl ?_)
    refine wpAny_bind (wpAny_mono (D.item i s (fun p q s₁ => ∃ a b, p = some a ∧ q = some b ∧ (FltV a (f i) ∧ NumV b (g i)) ∧ St (i + 1) s₁ ∧ Mv wr s s₁) _ hlt hst fun a b s' v st m => ⟨a, b, rfl, rfl, v, st, m⟩) (fun p s₁ h₁ => wpAny_bind (wpAny_mono h₁ (fun q s₂ h₂ => ?_) fun _ _ e => e)) fun _ _ e => e)
    obtain ⟨a, b, rfl, rfl, ⟨⟨x, tx, rfl, hx⟩, vb⟩, st, mv⟩ := h₂
    have e3 : ((((tr.1.toNat : Int)).toNat.toUInt64, ((tr.2.1.toNat : Int)).toNat.toUInt64, ((tr.2.2.toNat : Int)).toNat.toUInt64) : UInt64 × UInt64 × UInt64) = tr := by
      rw [bits_one, bits_one, bits_one]
    rw [e3]
    have tail : ∀ y : UInt64, Fl y (g i) → wpAny (model prog w) A.in1 (newTuple [rawInt (Builtin.Math.tlFma x y tr).1.toNat, rawInt (Builtin.Math.tlFma x y tr).2.1.toNat, rawInt (Builtin.Math.tlFma x y tr).2.2.toNat] >>= fun t => again (.builtin "math.sumprod.loop" ⟨[.ref I, .ref K, .int 0 t0, .bool false, rawInt 0, .bool false, .bool true, t, .bool true], []⟩))
        (fun fin s' => match fin with | .done f => R (.ok f) s' | .again c' => c'.quiet = true ∧ codeAny (model prog w) A c' R s') (fun e s' => R (.error e) s') s₂ := by
      intro y hy
      have h4 := tl_fma hx hy h3 (hd i hlt) (hb i hlt) (hb2 i (Nat.le_of_lt hlt)) (hb2 (i + 1) hlt)
      refine wpAny_bind (wpAny_newTuple ?_ (by show 3 ≤ sizeLine; decide))
      refine wpAny_pure ⟨plainId_quiet FF.plain_sumprod_loop _, ih (i + 1) _ _ _ t0 false true (by omega) hlt (D.push _ _ _ _ st (Nat.le_refl _) fun b o e => Heap.get?_push_of_some _ e) (Heap.get?_push_size _ rfl) ?_ h4 (.inl rfl) fun s' x' t' mv' hx' => ?_⟩
      · intro hm
        exact Nat.lt_irrefl _ (D.top _ _ st _ hm)
      · exact hR s' x' t' ⟨(mv.1.trans (.heap1 _ _)).trans mv'.1, fun b o hb e => mv'.2 b o hb (Heap.get?_push_of_some _ (mv.2 b o hb e))⟩ hx'
    have fin : ∀ y : UInt64, Fl y (g i) → Float64.isFinite (Builtin.Math.tlFma x y tr).1 = true := fun y hy => (tl_fma hx hy h3 (hd i hlt) (hb i hlt) (hb2 i (Nat.le_of_lt hlt)) (hb2 (i + 1) hlt)).hi.fin
    rcases vb with ⟨y, ty, rfl, hy⟩ | ⟨j, tj, rfl, hj, hgj⟩
    · cases io
      · show wpAny _ _ (if Float64.isFinite (Builtin.Math.tlFma x y tr).1 = true then _ else _) _ _ _
        rw [if_pos (fin y hy)]
        exact tail y hy
      · show wpAny _ _ (rule "math.sumprod.leaves-ints" >>= _) _ _ _
        refine wpAny_bind (wpAny_rule ?_)
        show wpAny _ _ (if Float64.isFinite (Builtin.Math.tlFma x y tr).1 = true then _ else _) _ _ _
        rw [if_pos (fin y hy)]
        exact tail y hy
    · have h1 := Fl.ofInt hj
      rw [← hgj] at h1
      have hno : (Float64.isInf (Float64.ofInt j) = true) = False := by rw [h1.noInf]; simp
      cases io
      · dsimp only [Option.isSome_some, bne_self_eq_false, Bool.false_eq_true, if_false, if_true, Bool.or_false, Bool.true_or]
        simp only [hno, if_false]
        show wpAny _ _ (if Float64.isFinite (Builtin.Math.tlFma x (Float64.ofInt j) tr).1 = true then _ else _) _ _ _
        rw [if_pos (fin _ h1)]
        exact tail _ h1
      · show wpAny _ _ (rule "math.sumprod.leaves-ints" >>= _) _ _ _
        refine wpAny_bind (wpAny_rule ?_)
        dsimp only [Option.isSome_some, bne_self_eq_false, Bool.false_eq_true, if_false, if_true, Bool.or_false, Bool.true_or]
        simp only [hno, if_false]
        show wpAny _ _ (if Float64.isFinite (Builtin.Math.tlFma x (Float64.ofInt j) tr).1 = true then _ else _) _ _ _
        rw [if_pos (fin _ h1)]
        exact tail _ h1
end
end Mine
end

section
open PySem PySem.Spec PySem.Calls PySem.W PyProof.Rows
set_option Elab.async false
set_option maxRecDepth 100000
namespace Mine
def Fits (i : Int) : Prop := -(2 ^ 63) ≤ i ∧ i < 2 ^ 63
theorem fits_dec {i : Int} (h : Fits i) : (decide (-(2 ^ 63) ≤ i) && decide (i ≤ Builtin.Math.maxSsize)) = true := by
  have : Builtin.Math.maxSsize = 2 ^ 63 - 1 := by decide
  obtain ⟨h1, h2⟩ := h
  rw [this]
  simp only [Bool.and_eq_true, decide_eq_true_eq]
  omega
section
variable {prog : Program} {w : World} {A : Around} {R : Result → Shared → Prop} {I K : Addr} {wr : List Addr} {n : Nat} {St : Nat → Shared → Prop}
theorem sumprod_loop_i (f g : Nat → Int) (D : Duo prog w A.in1 I K n (fun i a b => IntV a (f i) ∧ IntV b (g i)) wr St)
    (hf : ∀ i, i < n → Fits (f i) ∧ Fits (g i) ∧ Fits (f i * g i)) (hs : ∀ i, i ≤ n → Fits (preSum (fun j => f j * g j) i)) :
    ∀ (k i : Nat) (s : Shared) (t : Addr) (tr : UInt64 × UInt64 × UInt64) (t0 : Tok) (iu : Bool), n - i = k → i ≤ n → St i s → s.heap.get? t = some (tri tr) → t ∉ wr → (iu = true ∨ i < n) →
    (∀ s' t', Mv wr s s' → R (.ok (.ret (.int (preSum (fun j => f j * g j) n) t'))) s') →
    codeAny (model prog w) A (.builtin "math.sumprod.loop" ⟨[.ref I, .ref K, .int 0 t0, .bool true, rawInt (preSum (fun j => f j * g j) i), .bool iu, .bool true, .ref t, .bool false], []⟩) R s := by
  intro k
  induction k with
  | zero =>
    intro i s t tr t0 iu hk hi hst ht htw hiu hR
    have hin : i = n := by omega
    subst hin
    have hiu' : iu = true := by
      rcases hiu with h | h
      · exact h
      · omega
    subst hiu'
    refine codeAny_builtin FF.entry_sumprod_loop ?_
    rw [Around.under_plainId FF.plain_sumprod_loop _]
    refine wpAny_bind (wpAny_seqItems ht rfl ?_)
    refine wpAny_bind (wpAny_mono (D.done s (fun p q s₁ => p = none ∧ q = none ∧ Mv wr s s₁) _ hst fun s' m => ⟨rfl, rfl, m⟩) (fun p s₁ h₁ => wpAny_bind (wpAny_mono h₁ (fun q s₂ h₂ => ?_) fun _ _ e => e)) fun _ _ e => e)
    obtain ⟨rfl, rfl, mv⟩ := h₂
    show wpAny _ _ (rule "math.sumprod.leaves-ints" >>= _) _ _ _
    refine wpAny_bind (wpAny_rule ?_)
    show wpAny _ _ (mkInt (preSum (fun j => f j * g j) i) >>= _) _ _ _
    refine wpAny_bind (wpAny_mkInt ?_)
    refine wpAny_bind (wpAny_holding (PySem.P.add_int ?_))
    show wpAny _ _ (rule "math.sumprod.leaves-floats" >>= _) _ _ _
    refine wpAny_bind (wpAny_rule ?_)
    rw [Int.zero_add]
    exact wpAny_pure (hR _ _ ⟨(mv.1.trans (.tok _ _)).trans (.tok _ _), mv.2⟩)
  | succ k ih =>
    intro i s t tr t0 iu hk hi hst ht htw hiu hR
    have hlt : i < n := by omega
    refine codeAny_builtin FF.entry_sumprod_loop ?_
    rw [Around.under_plainId FF.plain_sumprod_loop _]
    refine wpAny_bind (wpAny_seqItems ht rfl ?_)
    refine wpAny_bind (wpAny_mono (D.item i s (fun p q s₁ => ∃ a b, p = some a ∧ q = some b ∧ (IntV a (f i) ∧ IntV b (g i)) ∧ St (i + 1) s₁ ∧ Mv wr s s₁) _ hlt hst fun a b s' v st m => ⟨a, b, rfl, rfl, v, st, m⟩) (fun p s₁ h₁ => wpAny_bind (wpAny_mono h₁ (fun q s₂ h₂ => ?_) fun _ _ e => e)) fun _ _ e => e)
    obtain ⟨a, b, rfl, rfl, ⟨⟨ta, rfl⟩, ⟨tb, rfl⟩⟩, st, mv⟩ := h₂
    obtain ⟨h1, h2, h3⟩ := hf i hlt
    have h4 := hs (i + 1) hlt
    show wpAny _ _ (if (decide (-(2 ^ 63) ≤ f i) && decide (f i ≤ Builtin.Math.maxSsize) && (decide (-(2 ^ 63) ≤ g i) && decide (g i ≤ Builtin.Math.maxSsize)) && (decide (-(2 ^ 63) ≤ f i * g i) && decide (f i * g i ≤ Builtin.Math.maxSsize)) &&
      (decide (-(2 ^ 63) ≤ preSum (fun j => f j * g j) i + f i * g i) && decide (preSum (fun j => f j * g j) i + f i * g i ≤ Builtin.Math.maxSsize))) = true then _ else _) _ _ _
    rw [if_pos (by rw [fits_dec h1, fits_dec h2, fits_dec h3]; exact fits_dec h4)]
    refine wpAny_pure ⟨plainId_quiet FF.plain_sumprod_loop _, ih (i + 1) _ t tr t0 true (by omega) hlt st (mv.2 _ _ htw ht) htw (.inl rfl) fun s' t' mv' => ?_⟩
    exact hR s' t' ⟨mv.1.trans mv'.1, fun b o hb e => mv'.2 b o hb (mv.2 b o hb e)⟩
end
/-! ### two walkers make a duo -/
structure WG (prog : Program) (w : World) (A : Around) (I : Addr) (fp wr : List Addr) (g : Nat) (n : Nat) (P : Nat → Value → Prop) (St : Nat → Shared → Prop) : Prop where
  W : WalksS prog w A I fp wr (GenOnlyQ g) n P St
  move : ∀ i (s s' : Shared), St i s → s'.gens[g]? = s.gens[g]? → (∀ b ∈ fp, ∀ o, s.heap.get? b = some o → s'.heap.get? b = some o) → St i s'
theorem Mv.of {wr : List Addr} {g : Nat} {s s' : Shared} (m : Moved wr (GenOnlyQ g) s s') : Mv wr s s' := by
  refine ⟨⟨⟨s'.heap, s'.gens, s'.toks, ?_⟩, fun h => AllBare.movedS h m⟩, m.heap⟩
  obtain ⟨h, g, d, t, o⟩ := s'
  have h1 := m.drawn
  have h2 := m.os
  simp only at h1 h2
  subst h1; subst h2
  rfl
theorem gens_other {g g' : Nat} {a b : Array GenState} (x : GenOnlyQ g a b) (h : g' ≠ g ∨ b = a) : b[g']? = a[g']? := by
  rcases x with rfl | ⟨⟨_, h2⟩, _⟩
  · rfl
  · rcases h with h | rfl
    · exact h2 _ h
    · rfl
theorem duo_of {prog : Program} {w : World} {A : Around} {I K : Addr} {f1 w1 f2 w2 : List Addr} {g1 g2 n : Nat} {P1 P2 : Nat → Value → Prop} {S1 S2 : Nat → Shared → Prop}
    (X : WG prog w A I f1 w1 g1 n P1 S1) (Y : WG prog w A K f2 w2 g2 n P2 S2) (h12 : ∀ b ∈ w1, b ∉ f2) (h21 : ∀ b ∈ w2, b ∉ f1) (hg : g1 ≠ g2) (T : Addr) (hT1 : T ∉ w1) (hT2 : T ∉ w2) (hlt : ∀ b ∈ w1 ++ w2, b < T) :
    Duo prog w A I K n (fun i a b => P1 i a ∧ P2 i b) (w1 ++ w2) (fun i s => S1 i s ∧ S2 i s ∧ ∃ o, s.heap.get? T = some o) where
  item := fun i s Q E hi st hQ => by
    obtain ⟨st1, st2, oT, eT⟩ := st
    refine X.W.item i s _ _ hi st1 fun a s₁ hP1 st1' m1 => ?_
    have st2' : S2 i s₁ := Y.move _ _ _ st2 (gens_other m1.gens (.inl (Ne.symm hg))) fun b hb o e => m1.heap b o (fun hw => h12 b hw hb) e
    refine wpAny_holding (Y.W.item i s₁ _ _ hi st2' fun b s₂ hP2 st2'' m2 => ?_)
    have st1'' : S1 (i + 1) s₂ := X.move _ _ _ st1' (gens_other m2.gens (.inl hg)) fun b hb o e => m2.heap b o (fun hw => h21 b hw hb) e
    refine hQ a b s₂ ⟨hP1, hP2⟩ ⟨st1'', st2'', oT, m2.heap _ _ hT2 (m1.heap _ _ hT1 eT)⟩ ⟨(Mv.of m1).1.trans (Mv.of m2).1, fun b o hb e => ?_⟩
    rw [List.mem_append, not_or] at hb
    exact m2.heap _ _ hb.2 (m1.heap _ _ hb.1 e)
  done := fun s Q E st hQ => by
    obtain ⟨st1, st2, oT, eT⟩ := st
    refine X.W.done s _ _ st1 fun s₁ m1 => ?_
    have st2' : S2 n s₁ := Y.move _ _ _ st2 (gens_other m1.gens (.inl (Ne.symm hg))) fun b hb o e => m1.heap b o (fun hw => h12 b hw hb) e
    refine wpAny_holding (Y.W.done s₁ _ _ st2' fun s₂ m2 => ?_)
    refine hQ s₂ ⟨(Mv.of m1).1.trans (Mv.of m2).1, fun b o hb e => ?_⟩
    rw [List.mem_append, not_or] at hb
    exact m2.heap _ _ hb.2 (m1.heap _ _ hb.1 e)
  push := fun i s h' tk st _ hk => ⟨X.move _ _ _ st.1 rfl fun b _ o e => hk b o e, Y.move _ _ _ st.2.1 rfl fun b _ o e => hk b o e, let ⟨o, e⟩ := st.2.2; ⟨o, hk _ _ e⟩⟩
  top := fun i s st b hb => by
    obtain ⟨o, e⟩ := st.2.2
    exact Nat.lt_trans (hlt b hb) (Heap.lt_size e)
theorem wg_list {prog : Program} {w : World} {A : Around} (hh : A.handled = none) (I l : Addr) (hne : l ≠ I) (items : Array Value) (g : Nat) :
    WG prog w A I [I, l] [I] g items.size (fun i v => items[i]? = some v) (fun i s => s.heap.IsListIter I l i ∧ s.heap.IsList l items) where
  W := by
    have W := (Walks.list (prog := prog) (w := w) (A := A) hh I l hne items).toS
    exact ⟨W.sub, fun _ => .inl rfl, fun _ _ _ x y => x.trans y, W.frame, fun i s Q E hi st hQ => W.item i s Q E hi st fun v s' hp st' m => hQ v s' hp st' ⟨m.heap, .inl m.gens, m.drawn, m.os, m.toks⟩,
      fun s Q E st hQ => W.done s Q E st fun s' m => hQ s' ⟨m.heap, .inl m.gens, m.drawn, m.os, m.toks⟩, W.self⟩
  move := fun i s s' st _ hk => ⟨st.1.at fun o e => hk I (by simp) o e, st.2.at fun o e => hk l (by simp) o e⟩
end Mine
end

section
open PySem PySem.Spec PySem.Calls PySem.W PyProof.Rows
set_option Elab.async false
set_option maxRecDepth 100000
namespace Mine
def LF (h : Heap) (l : Addr) (cs : List Int) : Prop := ∃ ys, h.PlainList l ys ∧ Paired (fun c y => FltV y c) cs ys.toList
theorem Kp.lf {h h' : Heap} (k : Kp h h') {l is} (x : LF h l is) : LF h' l is := let ⟨ys, a, b⟩ := x; ⟨ys, k.list a, b⟩
theorem Paired.imp {α β : Type} {F G : α → β → Prop} (h : ∀ a b, F a b → G a b) : ∀ {l₁ : List α} {l₂ : List β}, Paired F l₁ l₂ → Paired G l₁ l₂
  | _, _, .nil => .nil
  | _, _, .cons a t => .cons (h _ _ a) (Paired.imp h t)
theorem FltV.num {v : Value} {c : Int} (h : FltV v c) : NumV v c := .inl h
theorem LF.ln {h : Heap} {l : Addr} {cs : List Int} (x : LF h l cs) : LN h l cs := let ⟨ys, a, b⟩ := x; ⟨ys, a, Paired.imp (fun _ _ h => .inl h) b⟩
theorem LI.ln {h : Heap} {l : Addr} {is : List Int} (x : LI h l is) (hb : ∀ i ∈ is, i.natAbs < 2 ^ 35) : LN h l (is.map (· * 2 ^ 18)) := by
  obtain ⟨ys, a, b⟩ := x
  refine ⟨ys, a, ?_⟩
  clear a
  generalize ys.toList = vs at b
  induction b with
  | nil => exact .nil
  | cons h t ih =>
    obtain ⟨tk, rfl⟩ := h
    exact .cons (.inr ⟨_, tk, rfl, hb _ (.head _), rfl⟩) (ih fun i hi => hb i (.tail _ hi))
theorem preSum_bound {cs : List Int} {M : Nat} (hb : ∀ c ∈ cs, c.natAbs ≤ M) (hM : (cs.length + 1) * M < 2 ^ 53) (i : Nat) : (preSum (fun i => cs.getD i 0) i).natAbs < 2 ^ 53 := by
  rw [preSum_list]
  have h1 := natAbs_sum_le (cs := cs.take i) (M := M) fun c hc => hb c (List.mem_of_mem_take hc)
  have h2 : (cs.take i).length * M ≤ (cs.length + 1) * M := Nat.mul_le_mul_right _ (by rw [List.length_take]; omega)
  exact Nat.lt_of_le_of_lt (Nat.le_trans h1 h2) hM
theorem getD_bound {cs : List Int} {M : Nat} (hb : ∀ c ∈ cs, c.natAbs ≤ M) (hM : (cs.length + 1) * M < 2 ^ 53) (i : Nat) (hi : i < cs.length) : (cs.getD i 0).natAbs < 2 ^ 53 := by
  have : cs.getD i 0 ∈ cs := by
    rw [List.getD_eq_getElem?_getD, List.getElem?_eq_getElem hi]
    exact List.getElem_mem hi
  exact Nat.lt_of_le_of_lt (Nat.le_trans (hb _ this) (Nat.le_mul_of_pos_left _ (by omega))) hM
section
variable {prog : Program} {w : World} {A : Around} {E : Value → Shared → Prop} {s s₀ : Shared} {h : Heap} {Q : Value → Shared → Prop} {l1 l2 : Addr}
/-- up to the loop -/
theorem sumprod_enter {ys1 ys2 : Array Value} (pl1 : s.heap.PlainList l1 ys1) (pl2 : s.heap.PlainList l2 ys2) (hsz : ys1.size = ys2.size) (hh : A.handled = none)
    (hq : ∀ (s₁ : Shared) (I K t : Addr) (t0 : Tok) (wr : List Addr), Sm s s₁ → (∀ b o, s.heap.get? b = some o → b ∉ wr ∧ s₁.heap.get? b = some o) → s₁.heap.get? t = some (tri (Float64.zero false, Float64.zero false, Float64.zero false)) → t ∉ wr →
      (∃ St, Duo prog w A.in1 I K ys1.size (fun i a b => ys1[i]? = some a ∧ ys2[i]? = some b) wr St ∧ St 0 s₁) → ∀ R : Result → Shared → Prop, (∀ v s', Q v s' → R (.ok (.ret v)) s') →
      codeAny (model prog w) A (.builtin "math.sumprod.loop" ⟨[.ref I, .ref K, .int 0 t0, .bool true, rawInt 0, .bool false, .bool true, .ref t, .bool false], []⟩) R s₁) :
    wpAny (model prog w) A (call (.builtin "math.sumprod") [.ref l1, .ref l2]) Q E s := by
  refine call_function_tree FF.kind_sumprod FF.plain_sumprod FF.entry_sumprod (FF.args_sumprod _ _) ?_
  refine wpAny_bind (wpAny_of_eq (a := [.ref l1, .ref l2]) rfl ?_)
  refine wpAny_bind (wpAny_pyIter_list pl1.isList ?_)
  have hz1 : (s.heap.push { cls := .type "list_iterator", data := .fields #[.ref l1, .int 0 0] }).objs.size = s.heap.objs.size + 1 := Heap.size_push ..
  refine wpAny_bind (wpAny_holding (wpAny_pyIter_list ((Kp.push _ _).list pl2).isList ?_))
  have hz2 : ((s.heap.push { cls := .type "list_iterator", data := .fields #[.ref l1, .int 0 0] }).push { cls := .type "list_iterator", data := .fields #[.ref l2, .int 0 0] }).objs.size = s.heap.objs.size + 2 := by rw [Heap.size_push, hz1]
  refine wpAny_bind (wpAny_mkInt (wpAny_bind (wpAny_newTuple ?_ (by show 3 ≤ sizeLine; decide))))
  have n1 := natlt (Heap.lt_size (pl1.choose_spec))
  have n2 := natlt (Heap.lt_size (pl2.choose_spec))
  have hN : ∀ b o, s.heap.get? b = some o → @LT.lt Nat _ b s.heap.objs.size := fun b o e => natlt (Heap.lt_size e)
  have Dd : Duo prog w A.in1 s.heap.objs.size (s.heap.objs.size + 1) ys1.size (fun i a b => ys1[i]? = some a ∧ ys2[i]? = some b) [s.heap.objs.size, s.heap.objs.size + 1] (fun i s' => (s'.heap.IsListIter s.heap.objs.size l1 i ∧ s'.heap.IsList l1 ys1) ∧ (s'.heap.IsListIter (s.heap.objs.size + 1) l2 i ∧ s'.heap.IsList l2 ys2) ∧ ∃ o, s'.heap.get? (s.heap.objs.size + 2) = some o) := by
    have Y := wg_list (prog := prog) (w := w) (A := A.in1) hh (s.heap.objs.size + 1) l2 (by exact neA (by omega)) ys2 1
    rw [← hsz] at Y
    refine duo_of (wg_list (prog := prog) (w := w) (A := A.in1) hh s.heap.objs.size l1 (by exact neA (by omega)) ys1 0) Y ?_ ?_ (by decide) (s.heap.objs.size + 2) ?_ ?_ ?_
    · intro b hb
      rw [List.mem_singleton.mp hb]
      intro hm
      simp only [List.mem_cons, List.not_mem_nil, or_false] at hm
      rcases hm with e | e
      · exact absurd e (by show ¬ @Eq Nat _ _; omega)
      · exact absurd e (by show ¬ @Eq Nat _ _; have := n2; omega)
    · intro b hb
      rw [List.mem_singleton.mp hb]
      intro hm
      simp only [List.mem_cons, List.not_mem_nil, or_false] at hm
      rcases hm with e | e
      · exact absurd e (by show ¬ @Eq Nat _ _; omega)
      · exact absurd e (by show ¬ @Eq Nat _ _; have := n1; omega)
    · intro hm
      exact absurd (List.mem_singleton.mp hm) (by show ¬ @Eq Nat _ _; omega)
    · intro hm
      exact absurd (List.mem_singleton.mp hm) (by show ¬ @Eq Nat _ _; omega)
    · intro b hb
      simp only [List.cons_append, List.nil_append, List.mem_cons, List.not_mem_nil, or_false] at hb
      rcases hb with rfl | rfl
      · exact ltA (by omega)
      · exact ltA (by omega)
  rw [hz1, hz2]
  refine wpAny_pure ⟨plainId_quiet FF.plain_sumprod_loop _, hq _ _ _ _ _ [s.heap.objs.size, s.heap.objs.size + 1] ?_ ?_ (by rw [← hz2]; exact Heap.get?_push_size _ rfl) ?_ ⟨_, Dd, ⟨?_, ?_, ?_⟩⟩ _ fun v s' q => q⟩
  · exact ⟨⟨_, _, _, rfl⟩, id⟩
  · intro b o e
    have := hN b o e
    refine ⟨fun hm => ?_, Heap.get?_push_of_some _ (Heap.get?_push_of_some _ (Heap.get?_push_of_some _ e))⟩
    simp only [List.mem_cons, List.not_mem_nil, or_false] at hm
    rcases hm with rfl | rfl
    · exact Nat.lt_irrefl _ this
    · exact absurd this (by show ¬ @LT.lt Nat _ _ _; omega)
  · intro hm
    simp only [List.mem_cons, List.not_mem_nil, or_false] at hm
    rcases hm with e | e
    · exact absurd e (by show ¬ @Eq Nat _ _; omega)
    · exact absurd e (by show ¬ @Eq Nat _ _; omega)
  · exact ⟨⟨_, Heap.get?_push_of_some _ (Heap.get?_push_of_some _ (Heap.get?_push_size _ rfl)), rfl, rfl⟩, ((((Kp.push _ _).trans (.push _ _)).trans (.push _ _)).list pl1).isList⟩
  · refine ⟨⟨{ cls := .type "list_iterator", data := .fields #[.ref l2, .int 0 0] }, Heap.get?_push_of_some _ ?_, rfl, rfl⟩, ((((Kp.push _ _).trans (.push _ _)).trans (.push _ _)).list pl2).isList⟩
    rw [← hz1]; exact Heap.get?_push_size _ rfl
  · exact ⟨_, by rw [← hz2]; exact Heap.get?_push_size _ rfl⟩
theorem call_sumprod_f (z : At s₀ h s) (hh : A.handled = none) {fs gs ds : List Int} {M : Nat} (h1 : LF h l1 fs) (h2 : LN h l2 gs) (hl1 : fs.length = ds.length) (hl2 : gs.length = ds.length) (hpos : 0 < ds.length)
    (hd : ∀ i, i < ds.length → fs.getD i 0 * gs.getD i 0 = ds.getD i 0 * 2 ^ 18) (hb : ∀ c ∈ ds, c.natAbs ≤ M) (hM : (ds.length + 1) * M < 2 ^ 53)
    (hQ : ∀ h' s' x t, At s₀ h' s' → Kp h h' → Fl x ds.sum → Q (.float x t) s') : wpAny (model prog w) A (call (.builtin "math.sumprod") [.ref l1, .ref l2]) Q E s := by
  have hz := z.hp
  subst hz
  obtain ⟨ys1, pl1, pr1⟩ := h1
  obtain ⟨ys2, pl2, pr2⟩ := h2
  have e1 : ys1.size = ds.length := by rw [← Array.length_toList, ← pr1.length, hl1]
  have e2 : ys2.size = ds.length := by rw [← Array.length_toList, ← pr2.length, hl2]
  refine sumprod_enter pl1 pl2 (e1.trans e2.symm) hh fun s₁ I K t t0 wr sm hk et htw ⟨St, D, st⟩ R hR => ?_
  rw [e1] at D
  have D' : Duo prog w A.in1 I K ds.length (fun i a b => FltV a (fs.getD i 0) ∧ NumV b (gs.getD i 0)) wr St := by
    refine ⟨fun i s Q E hi st hQ => D.item i s Q E hi st fun a b s' hv => hQ a b s' ⟨?_, ?_⟩, D.done, D.push, D.top⟩
    · obtain ⟨c, hc, hn⟩ := Paired.get' pr1 i a (by simpa using hv.1)
      rw [List.getD_eq_getElem?_getD, hc]; exact hn
    · obtain ⟨c, hc, hn⟩ := Paired.get' pr2 i b (by simpa using hv.2)
      rw [List.getD_eq_getElem?_getD, hc]; exact hn
  refine sumprod_loop_f (fun i => fs.getD i 0) (fun i => gs.getD i 0) (fun i => ds.getD i 0) D' hd (fun i hi => getD_bound hb hM i hi) (fun i _ => preSum_bound hb hM i) ds.length 0 s₁ t _ t0 true false rfl (Nat.zero_le _) st et htw T3.zero (.inr hpos) fun s' x t' mv hx => hR _ _ ?_
  rw [preSum_list, List.take_length] at hx
  have k : ∀ b o, s.heap.get? b = some o → s'.heap.get? b = some o := fun b o e => mv.2 b o (hk b o e).1 (hk b o e).2
  exact hQ _ s' x t' (z.to ⟨sm.trans mv.1, .of k⟩) (.of k) hx
theorem call_sumprod_i (z : At s₀ h s) (hh : A.handled = none) {fs gs : List Int} {M : Nat} (h1 : LI h l1 fs) (h2 : LI h l2 gs) (hl : gs.length = fs.length) (hpos : 0 < fs.length)
    (hb1 : ∀ i, i < fs.length → (fs.getD i 0).natAbs ≤ M) (hb2 : ∀ i, i < fs.length → (gs.getD i 0).natAbs ≤ M) (hM : fs.length * (M * M) < 2 ^ 62)
    (hQ : ∀ h' s' t, At s₀ h' s' → Kp h h' → Q (.int (preSum (fun i => fs.getD i 0 * gs.getD i 0) fs.length) t) s') : wpAny (model prog w) A (call (.builtin "math.sumprod") [.ref l1, .ref l2]) Q E s := by
  have hz := z.hp
  subst hz
  obtain ⟨ys1, pl1, pr1⟩ := h1
  obtain ⟨ys2, pl2, pr2⟩ := h2
  have e1 : ys1.size = fs.length := by rw [← Array.length_toList, ← pr1.length]
  have e2 : ys2.size = fs.length := by rw [← Array.length_toList, ← pr2.length, hl]
  refine sumprod_enter pl1 pl2 (e1.trans e2.symm) hh fun s₁ I K t t0 wr sm hk et htw ⟨St, D, st⟩ R hR => ?_
  rw [e1] at D
  have D' : Duo prog w A.in1 I K fs.length (fun i a b => IntV a (fs.getD i 0) ∧ IntV b (gs.getD i 0)) wr St := by
    refine ⟨fun i s Q E hi st hQ => D.item i s Q E hi st fun a b s' hv => hQ a b s' ⟨?_, ?_⟩, D.done, D.push, D.top⟩
    · obtain ⟨c, hc, hn⟩ := Paired.get' pr1 i a (by simpa using hv.1)
      rw [List.getD_eq_getElem?_getD, hc]; exact hn
    · obtain ⟨c, hc, hn⟩ := Paired.get' pr2 i b (by simpa using hv.2)
      rw [List.getD_eq_getElem?_getD, hc]; exact hn
  have hMM : M ≤ M * M := by
    cases M with
    | zero => exact Nat.le_refl _
    | succ m => exact Nat.le_mul_of_pos_left _ (by omega)
  have hone : M * M ≤ fs.length * (M * M) := Nat.le_mul_of_pos_left _ hpos
  have hprod : ∀ i, i < fs.length → (fs.getD i 0 * gs.getD i 0).natAbs ≤ M * M := fun i hi => by
    rw [Int.natAbs_mul]; exact Nat.mul_le_mul (hb1 i hi) (hb2 i hi)
  have hpre : ∀ i, i ≤ fs.length → (preSum (fun j => fs.getD j 0 * gs.getD j 0) i).natAbs ≤ i * (M * M) := by
    intro i
    induction i with
    | zero => intro _; show (0 : Int).natAbs ≤ _; exact Nat.zero_le _
    | succ i ih =>
      intro hi
      have h1 := ih (by omega)
      have h2 := hprod i (by omega)
      show (preSum (fun j => fs.getD j 0 * gs.getD j 0) i + fs.getD i 0 * gs.getD i 0).natAbs ≤ _
      have := Int.natAbs_add_le (preSum (fun j => fs.getD j 0 * gs.getD j 0) i) (fs.getD i 0 * gs.getD i 0)
      rw [Nat.succ_mul]
      omega
  have fit : ∀ x : Int, x.natAbs < 2 ^ 62 → Fits x := fun x hx => ⟨by omega, by omega⟩
  refine sumprod_loop_i (fun i => fs.getD i 0) (fun i => gs.getD i 0) D' (fun i hi => ?_) (fun i hi => ?_) fs.length 0 s₁ t _ t0 false rfl (Nat.zero_le _) st et htw (.inr hpos) fun s' t' mv => hR _ _ ?_
  · have h1 := hb1 i hi
    have h2 := hb2 i hi
    have h3 := hprod i hi
    exact ⟨fit _ (by omega), fit _ (by omega), fit _ (by omega)⟩
  · have h1 := hpre i hi
    have h2 : i * (M * M) ≤ fs.length * (M * M) := Nat.mul_le_mul_right _ hi
    exact fit _ (by omega)
  · have k : ∀ b o, s.heap.get? b = some o → s'.heap.get? b = some o := fun b o e => mv.2 b o (hk b o e).1 (hk b o e).2
    exact hQ _ s' t' (z.to ⟨sm.trans mv.1, .of k⟩) (.of k)
end
/-! ## floats that Python has made: their tokens are no private ones -/
def FltP (v : Value) (c : Int) : Prop := ∃ x t, v = .float x t ∧ t ≠ 0 ∧ Fl x c
theorem FltP.v {v : Value} {c : Int} (h : FltP v c) : FltV v c := let ⟨x, t, e, _, f⟩ := h; ⟨x, t, e, f⟩
def LP (h : Heap) (l : Addr) (cs : List Int) : Prop := ∃ ys, h.PlainList l ys ∧ Paired (fun c y => FltP y c) cs ys.toList
theorem Kp.lp {h h' : Heap} (k : Kp h h') {l is} (x : LP h l is) : LP h' l is := let ⟨ys, a, b⟩ := x; ⟨ys, k.list a, b⟩
theorem LP.lf {h : Heap} {l : Addr} {cs : List Int} (x : LP h l cs) : LF h l cs := let ⟨ys, a, b⟩ := x; ⟨ys, a, Paired.imp (fun _ _ h => h.v) b⟩
section
variable {prog : Program} {w : World} {A : Around} {E : Value → Shared → Prop} {s : Shared} {a b : Value} {ca cb c : Int} {Q : Value → Shared → Prop}
theorem ndivP (hs : 0 < s.toks) (ha : NumV a ca) (hb : FltV b cb) (h0 : cb ≠ 0) (hd : ca * 2 ^ 18 = c * cb) (hc : c.natAbs < 2 ^ 53) (q : ∀ x t k, t ≠ 0 → Fl x c → Q (.float x t) { s with toks := k }) : wpAny (model prog w) A (binaryOp .Div a b) Q E s := by
  obtain ⟨y, u, rfl, hy⟩ := hb
  have hz : ¬ Float64.isZero y = true := by rw [hy.isZero]; simpa using h0
  rcases ha with ⟨x, t, rfl, hx⟩ | ⟨i, t, rfl, hi, rfl⟩
  · exact PySem.AutoFloatOps.truediv_1 hz (q _ _ _ (Nat.ne_of_gt hs) (hx.div hy h0 hd hc))
  · have h1 := Fl.ofInt hi
    exact PySem.AutoFloatOps.truediv_if_2 (by rw [h1.noInf]; decide) hz (q _ _ _ (Nat.ne_of_gt hs) (h1.div hy h0 hd hc))
theorem ndiviP (hs : 0 < s.toks) (ha : FltV a ca) {i : Int} {u : Tok} (hi : i.natAbs < 2 ^ 35) (h0 : i ≠ 0) (hd : ca = c * i) (hc : c.natAbs < 2 ^ 53) (q : ∀ x t k, t ≠ 0 → Fl x c → Q (.float x t) { s with toks := k }) : wpAny (model prog w) A (binaryOp .Div a (.int i u)) Q E s := by
  obtain ⟨y, t, rfl, hy⟩ := ha
  have h1 := Fl.ofInt hi
  have h2 : i * 2 ^ 18 ≠ 0 := by omega
  exact PySem.AutoFloatOps.truediv_fi_2 (by rw [h1.noInf]; decide) (by rw [h1.isZero]; simpa using h2) (q _ _ _ (Nat.ne_of_gt hs) (hy.div h1 h2 (by rw [hd, Int.mul_assoc]) hc))
theorem ndiviiP (hs : 0 < s.toks) {i j : Int} {t u : Tok} (h0 : j ≠ 0) (hd : i * 2 ^ 18 = c * j) (hc : c.natAbs < 2 ^ 53) (q : ∀ x t k, t ≠ 0 → Fl x c → Q (.float x t) { s with toks := k }) : wpAny (model prog w) A (binaryOp .Div (.int i t) (.int j u)) Q E s := by
  have h1 := Fl.ofFrac h0 hd hc
  exact PySem.AutoIntOps.truediv_2 (by simpa using h0) (by rw [h1.noInf]; decide) (q _ _ _ (Nat.ne_of_gt hs) h1)
theorem BinOpP {M : Model} {l r : Expr} {op : Operator} {pos : Pos} {env : Env}
    (h : wpAny M A (eval l env) (fun a s₁ => wpAny M A (eval r env) (fun b s₂ => s.toks ≤ s₂.toks → wpAny M A (binaryOp op a b) Q E s₂) E s₁) E s) : wpAny M A (eval (.BinOp l op r pos) env) Q E s :=
  wpAny_BinOp (wpAny_up (wpAny_mono h (fun _ _ h₁ hup => wpAny_up (wpAny_mono h₁ (fun _ _ h₂ hup₂ => h₂ (Nat.le_trans hup hup₂)) fun _ _ e _ => e)) fun _ _ e _ => e))
end
end Mine
end

section
open PySem PySem.Spec PySem.Calls PySem.W PyProof.Rows
set_option Elab.async false
namespace Mine
set_option maxRecDepth 100000
def signL : List Int := [1, -1, -1, 1, -1, 1, 1, -1]
def sg (n : Nat) : Int := signL.getD n 0
theorem bitAnd_nat (a b : Nat) : Builtin.bitAnd (a : Int) (b : Int) = ((a &&& b : Nat) : Int) := by
  unfold Builtin.bitAnd
  rw [decide_eq_true (Int.natCast_nonneg a), decide_eq_true (Int.natCast_nonneg b)]
  rfl

theorem sign_c {w : World} {mg mb : Mp} {A : Around} {s s₀ : Shared} {h : Heap} {Q E : Value → Shared → Prop} (z : At s₀ h s) (W : Wd (Mine.hd.heap_39 w.params) mg mb h) (hA : Rm 1 A) {a b : Nat} {t u : Tok} (hb : b < 8)
    (hQ : ∀ h' s' t', At s₀ h' s' → Kp h h' → Q (.int (sg (a &&& b)) t') s') : wpAny (model PySem.Challenge.rw_tv0030_01.row.prog w) A (call (.ref 145) [.int a t, .int b u]) Q E s := by
  refine cD (f := 145) [(Str.ofString "some", .int a t), (Str.ofString "others", .int b u)] z W (by rfl) hA (by rfl) (BindsTo.of_eq rfl) (by rfl) (by rfl) (by decide) ?_
  intro L h₁ s₁ q m cm A' hA' hm hcm I z₁ k₁
  have m1 := hm _ _ (.head _) rfl
  have m2 := hm _ _ (.tail _ (.head _)) rfl
  have lt : a &&& b < 8 := Nat.lt_of_le_of_lt Nat.and_le_right hb
  refine wpAny_execs_cons (wpAny_Return_some ?_)
  refine sub_list (mkList ?_)
  repeat walk_at "mm"
  refine ⟨Nat.le_of_ble_eq_true rfl, _, _, by assumption, fun l h₂ s₂ z₂ k₂ hl pl => ?_⟩
  repeat walk_at "mm"
  have I2 := I.kp k₂
  refine nL z₂ I2.ns m1 (nL z₂ I2.ns m2 (andI z₂ fun t s₃ z₃ => ?_))
  rw [bitAnd_nat]
  generalize a &&& b = k at lt hQ ⊢
  rcases (lt8 (by omega) : k = 0 ∨ k = 1 ∨ k = 2 ∨ k = 3 ∨ k = 4 ∨ k = 5 ∨ k = 6 ∨ k = 7) with rfl | rfl | rfl | rfl | rfl | rfl | rfl | rfl <;>
  exact ⟨_, _, _, _, _, rfl, rfl, z₃.hp ▸ pl, by decide, by decide, rfl, hQ _ _ _ z₃ (k₁.trans k₂)⟩
end Mine
end

section
open PySem PySem.Spec PySem.Calls PySem.W PyProof.Rows
set_option Elab.async false
namespace Mine
set_option maxRecDepth 100000
def bitF (a : Nat) (k : Nat) : Bool := (((a : Int).fdiv (2 ^ k)).fmod 2 == 1)
def weightF (a : Nat) (ws : List Int) : Int := (((List.range 3).filter (bitF a)).map fun k => ws.getD k 0).sum
def inF (a : Nat) (i : Nat) : Bool := (((1 + i) &&& a : Nat) : Int) == (1 + i : Int)
def withinF (a : Nat) (sh : List Int) : Int := (((List.range a).filter (inF a)).map fun i => sg ((1 + i) &&& 7) * sh.getD (1 + i) 0).sum
theorem sg_bound (n : Nat) : -1 ≤ sg n ∧ sg n ≤ 1 := by
  unfold sg signL
  rcases Nat.lt_or_ge n 8 with h | hn
  · rcases lt8 h with rfl | rfl | rfl | rfl | rfl | rfl | rfl | rfl <;> decide
  · rw [List.getD_eq_getElem?_getD, List.getElem?_eq_none (by simpa using hn)]; decide
theorem mul_small {a b : Int} (h1 : -(2 ^ 64) < a) (h2 : a < 2 ^ 64) : IntMulOk a b := PySem.IntMulOk.of_left (PySem.intBits_le_64 h1 h2)
theorem mul_small' {a b : Int} (h1 : -(2 ^ 64) < b) (h2 : b < 2 ^ 64) : IntMulOk a b := PySem.IntMulOk.of_right (PySem.intBits_le_64 h1 h2)
section
variable {w : World} {mg mb : Mp} {A : Around} {s s₀ : Shared} {h : Heap} {Q E : Value → Shared → Prop}

theorem weight_c (z : At s₀ h s) (W : Wd (Mine.hd.heap_39 w.params) mg mb h) (hA : Rm 1 A) {l : Addr} {ws : List Int} {a : Nat} {t : Tok} (hl : LI h l ws) (hlen : ws.length = 3)
    (hQ : ∀ h' s' t', At s₀ h' s' → Kp h h' → Q (.int (weightF a ws) t') s') : wpAny (model PySem.Challenge.rw_tv0030_01.row.prog w) A (call (.ref 150) [.int a t, .ref l]) Q E s := by
  refine cD (f := 150) [(Str.ofString "some", .int a t), (Str.ofString "weights", .ref l)] z W (by rfl) hA (by rfl) (BindsTo.of_eq rfl) (by rfl) (by rfl) (by decide) ?_
  intro L h₁ s₁ q m cm A' hA' hm hcm I z₁ k₁
  have W₁ := W.kp k₁
  have hl₁ := k₁.li hl
  have c1 : h₁.IsCell (L + 1) (some (.int a t)) := hcm _ _ (.head _) rfl ▸ I.cell (Str.ofString "some", L + 1) (.tail _ (.head _))
  have c2 : h₁.IsCell (L + 2) (some (.ref l)) := hcm _ _ (.tail _ (.head _)) rfl ▸ I.cell (Str.ofString "weights", L + 2) (.head _)
  clear hm hcm
  refine wpAny_execs_cons (wpAny_Return_some ?_)
  refine cB z₁ W₁ (by rfl) boot_sum (by decide) (wpAny_items_cons ?_)
  refine cmp (n := 3) (p := bitF a) (F := fun _ i y _ => IntV y (ws.getD i 0)) z₁ (sRange z₁ hA'.h W₁ (by rfl) rfl (by decide)) (by decide) (fun h₀ C kh hC => turn_local ?tests ?elt) ?hF ?hQ (by rfl) (by decide) (by decide)
  case tests =>
    intro i v s m cm E hi ⟨tv, hv⟩ hm x
    subst hv
    have zs := At.here s
    have ka := x.keep.cell (kh.cell c1)
    have e2 : (2 : Int) ^ ((i : Int).toNat) = 2 ^ i := by simp
    have hb : (2 : Int) ^ i = 1 ∨ (2 : Int) ^ i = 2 ∨ (2 : Int) ^ i = 4 := by
      rcases (by omega : i = 0 ∨ i = 1 ∨ i = 2) with rfl | rfl | rfl <;> simp
    refine wpAny_tests_one (wpAny_isTrue_Compare1 ?_)
    repeat walk_at "mm"
    refine nC zs ka (by rfl) ?_
    repeat walk_at "mm"
    refine nL (by assumption) x.ns hm (powI (by assumption) (by omega) (by omega) (by decide) ?_)
    rw [e2]
    intro t₂ s₂ z₂
    refine fdivI z₂ (by omega) (by omega) ?_
    intro t₃ s₃ z₃
    repeat walk_at "mm"
    refine modI (by assumption) (by decide) ?_
    intro t₄ s₄ z₄
    repeat walk_at "mm"
    refine eq_int (wpAny_truthy_bool ⟨rfl, At.gr (by assumption)⟩)
  case elt =>
    intro i v s m cm E hi ⟨tv, hv⟩ hp hm x
    subst hv
    have zs := At.here s
    have ka := x.keep.cell (kh.cell c2)
    have kl := x.keep.li (kh.li hl₁)
    refine sLI (nC zs ka (by rfl) (nL zs x.ns hm ⟨_, _, l, ws, i, tv, zs, rfl, rfl, kl, by omega, by omega, by omega, fun t' => ⟨⟨t', ?_⟩, .refl _⟩⟩))
    simp
  case hF => intro k k' i y h h' _ _ f; exact f
  case hQ =>
    intro D k h₂ s₂ ys z₂ k₂ hD pl pr
    refine wpAny_items_nil (sumLI z₂ hA'.h ⟨ys, pl, Paired.map _ pr⟩ ?_)
    intro h₃ s₃ t' z₃ k₃
    exact hQ _ _ _ z₃ ((k₁.trans k₂).trans k₃)

theorem within_c (z : At s₀ h s) (W : Wd (Mine.hd.heap_39 w.params) mg mb h) (hA : Rm 2 A) {l : Addr} {ws : List Int} {a : Nat} {t : Tok} (hl : LI h l ws) (hlen : ws.length = 8) (ha : a < 8)
    (hQ : ∀ h' s' t', At s₀ h' s' → Kp h h' → Q (.int (withinF a ws) t') s') : wpAny (model PySem.Challenge.rw_tv0030_01.row.prog w) A (call (.ref 155) [.int a t, .ref l]) Q E s := by
  refine cD (f := 155) [(Str.ofString "some", .int a t), (Str.ofString "shrunk", .ref l)] z W (by rfl) hA (by rfl) (BindsTo.of_eq rfl) (by rfl) (by rfl) (by decide) ?_
  intro L h₁ s₁ q m cm A' hA' hm hcm I z₁ k₁
  have W₁ := W.kp k₁
  have hl₁ := k₁.li hl
  have c1 : h₁.IsCell (L + 1) (some (.int a t)) := hcm _ _ (.head _) rfl ▸ I.cell (Str.ofString "some", L + 1) (.tail _ (.head _))
  have c2 : h₁.IsCell (L + 2) (some (.ref l)) := hcm _ _ (.tail _ (.head _)) rfl ▸ I.cell (Str.ofString "shrunk", L + 2) (.head _)
  clear hm hcm
  refine wpAny_execs_cons (wpAny_Return_some ?_)
  refine cB z₁ W₁ (by rfl) boot_sum (by decide) (wpAny_items_cons ?_)
  refine cmp (n := a) (p := inF a) (F := fun _ i y _ => IntV y (sg ((1 + i) &&& 7) * ws.getD (1 + i) 0)) z₁ (src_of_range (a := 1) (b := a + 1) hA'.h (by omega) (by decide) (by omega) ?src) (Nat.le_trans (Nat.le_of_lt ha) (by decide)) (fun h₀ C kh hC => turn_local ?tests ?elt) ?hF ?hQ (by rfl) (by decide) (by decide)
  case src =>
    intro E Q hq
    have hz := z₁.hp
    subst hz
    have zs := At.here s₁
    refine cT zs W₁ (by rfl) boot_range (by decide) ?_
    repeat walk_at "mm"
    refine nC (by assumption) c1 (by rfl) ?_
    repeat walk_at "mm"
    rename_i t₂ s₂ z₂ t₃ s₃ z₃ t₄ s₄ z₄
    exact call_range_2 (hq _ _ _ _ _ (z₄.gr.trans (.keep fun _ _ e => Heap.get?_push_of_some _ e)) (IsRange.new ..))
  case tests =>
    intro i v s m cm E hi ⟨tv, hv⟩ hm x
    subst hv
    have zs := At.here s
    have ka := x.keep.cell (kh.cell c1)
    refine wpAny_tests_one (wpAny_isTrue_Compare1 ?_)
    repeat walk_at "mm"
    refine nL zs x.ns hm (nC zs ka (by rfl) (andI zs ?_))
    intro t₂ s₂ z₂
    refine nL z₂ x.ns hm (eq_int (wpAny_truthy_bool ⟨?_, z₂.gr⟩))
    show (Builtin.bitAnd ((1 : Int) + (i : Int)) a == 1 + (i : Int)) = inF a i
    have : ((1 : Int) + (i : Int)) = ((1 + i : Nat) : Int) := by omega
    unfold inF
    rw [this, bitAnd_nat]
  case elt =>
    intro i v s m cm E hi ⟨tv, hv⟩ hp hm x
    subst hv
    have zs := At.here s
    have ka := x.keep.cell (kh.cell c2)
    have kl := x.keep.li (kh.li hl₁)
    have Wx := (W₁.kp kh).kp x.keep
    have e1 : ((1 : Int) + (i : Int)) = ((1 + i : Nat) : Int) := by omega
    repeat walk_at "mm"
    refine cF zs Wx (by rfl) (by rfl) ?_
    repeat walk_at "mm"
    refine nL zs x.ns hm ?_
    repeat walk_at "mm"
    rename_i t₂ s₂ z₂
    refine ⟨_, z₂, .refl _, ?_⟩
    rw [e1]
    refine sign_c (b := 7) z₂ Wx (hA'.le (by decide)) (by decide) ?_
    intro h₃ s₃ t₃ z₃ k₃
    refine sLI (nC z₃ (k₃.cell ka) (by rfl) (nL z₃ (k₃.ns x.ns) hm ⟨_, _, l, ws, _, tv, z₃, rfl, rfl, k₃.li kl, by omega, by omega, by omega, fun t' => mulI z₃ ?_ ?_⟩))
    · have := sg_bound ((1 + i) &&& 7)
      exact mul_small (by omega) (by omega)
    · intro t₄ s₄ z₄
      refine ⟨⟨t₄, ?_⟩, z₄.gr⟩
      have : ((1 : Int) + (i : Int)).toNat = 1 + i := by omega
      rw [this]
  case hF => intro k k' i y h h' _ _ f; exact f
  case hQ =>
    intro D k h₂ s₂ ys z₂ k₂ hD pl pr
    refine wpAny_items_nil (sumLI z₂ hA'.h ⟨ys, pl, Paired.map _ pr⟩ ?_)
    intro h₃ s₃ t' z₃ k₃
    exact hQ _ _ _ z₃ ((k₁.trans k₂).trans k₃)
end
end Mine
end

section
open PySem PySem.Spec PySem.Calls PySem.W PyProof.Rows
set_option Elab.async false
namespace Mine
set_option maxRecDepth 100000
def digsF (v : Int) : List Int → List Int
  | [] => []
  | b :: r => v.fmod b :: digsF (v.fdiv b) r
def valF (v : Int) : List Int → Int
  | [] => v
  | b :: r => valF (v.fdiv b) r
def bases : List Int := [12, 11, 10, 6, 6, 6, 3]
theorem valF_snoc : ∀ (l : List Int) (v b : Int), valF v (l ++ [b]) = (valF v l).fdiv b
  | [], _, _ => rfl
  | _ :: r, v, b => valF_snoc r _ b
theorem digsF_snoc : ∀ (l : List Int) (v b : Int), digsF v (l ++ [b]) = digsF v l ++ [(valF v l).fmod b]
  | [], _, _ => rfl
  | a :: r, v, b => by
    show v.fmod a :: digsF (v.fdiv a) (r ++ [b]) = _
    rw [digsF_snoc r _ b]; rfl
structure DJ (h₀ : Heap) (L I T D : Addr) (items : Array Value) (cm : Mp) (v : Int) (i k : Nat) (m : Mp) (h : Heap) : Prop where
  ex : ∃ ys z oI, Inn h₀ L [] m cm [(I, oI), (T, tup items), (D, lobj ys z)] h ∧ oI.cls = .type "tuple_iterator" ∧ oI.data = .fields #[.ref T, .int k 0] ∧ Paired (fun i y => IntV y i) (digsF v (bases.take i)) ys.toList
  vl : ∃ t, m (Str.ofString "value") = some (.int (valF v (bases.take i)) t)
  dg : m (Str.ofString "digits") = some (.ref D)
section
variable {w : World} {mg mb : Mp} {A : Around} {s s₀ : Shared} {h : Heap} {Q E : Value → Shared → Prop}
theorem digits_c (z : At s₀ h s) (W : Wd (Mine.hd.heap_39 w.params) mg mb h) (hA : Rm 1 A) {v : Int} {t : Tok}
    (hQ : ∀ h' s' D, At s₀ h' s' → Kp h h' → (∀ o, h.get? D ≠ some o) → LI h' D (digsF v bases) → Q (.ref D) s') : wpAny (model PySem.Challenge.rw_tv0030_01.row.prog w) A (call (.ref 131) [.int v t]) Q E s := by
  refine cD (f := 131) [(Str.ofString "value", .int v t)] z W (by rfl) hA (by rfl) (BindsTo.of_eq rfl) (by rfl) (by rfl) (by decide) ?_
  intro L h₁ s₁ q m cm A' hA' hm hcm I z₁ k₁
  have m1 := hm _ _ (.head _) rfl
  have k0 := z.kp0
  refine wpAny_execs_cons (wpAny_Assign_Name (mkList (wpAny_items_nil ⟨Nat.le_of_ble_eq_true rfl, _, _, z₁, fun D h₂ s₂ z₂ k₂ hD pl => ?_⟩)))
  obtain ⟨zD, eD⟩ := pl
  have I2 := I.new k₂ hD eD (not_isT_cls rfl)
  refine sL z₂ k0 I2 fun h₃ s₃ z₃ I3 hs3 => ?_
  refine wpAny_execs_cons (wpAny_For (mkTup ?_))
  repeat walk_at "mm"
  refine ⟨Nat.le_of_ble_eq_true rfl, _, _, by assumption, fun h₄ s₄ z₄ k₄ eT => ?_⟩
  obtain ⟨items, eI, pr⟩ : ∃ items, h₄.get? h₃.objs.size = some (tup items) ∧ Paired (fun i y => IntV y i) bases items.toList :=
    ⟨_, eT, .cons ⟨_, rfl⟩ (.cons ⟨_, rfl⟩ (.cons ⟨_, rfl⟩ (.cons ⟨_, rfl⟩ (.cons ⟨_, rfl⟩ (.cons ⟨_, rfl⟩ (.cons ⟨_, rfl⟩ .nil))))))⟩
  clear eT
  have nT : ∀ o, h₃.get? h₃.objs.size ≠ some o := fun o e => absurd (Heap.lt_size e) (Nat.lt_irrefl _)
  have I4 := I3.new k₄ nT eI (not_isT_cls rfl)
  generalize h₃.objs.size = T at eI nT I4 ⊢
  have hz4 := z₄.hp
  subst hz4
  refine wpAny_pyIter_tuple ⟨_, eI, rfl, _, rfl⟩ ?_
  have nI : ∀ o, s₄.heap.get? s₄.heap.objs.size ≠ some o := fun o e => absurd (Heap.lt_size e) (Nat.lt_irrefl _)
  have I5 := I4.new (.push _ _) nI (Heap.get?_push_size s₄.heap (o := { cls := .type "tuple_iterator", data := .fields #[.ref T, .int 0 0] }) rfl) (not_isT_cls rfl)
  have z5 : At s₀ _ { s₄ with heap := s₄.heap.push { cls := .type "tuple_iterator", data := .fields #[.ref T, .int 0 0] } } := ⟨z₄.gr.trans (.push _ _), rfl⟩
  generalize s₄.heap.objs.size = Ia at nI I5 ⊢
  have hlen := pr.length
  refine for_any (n := 7) (J := fun i h' => ∃ m, DJ h L Ia T D items cm v i i m h') (B := fun i val h' => ∃ m b t, DJ h L Ia T D items cm v i (i + 1) m h' ∧ bases[i]? = some b ∧ val = .int b t ∧ m (Str.ofString "base") = some val)
    (JD := fun h' => ∃ m ys z, Inn h L [] m cm [(D, lobj ys z)] h' ∧ m (Str.ofString "digits") = some (.ref D) ∧ Paired (fun i y => IntV y i) (digsF v bases) ys.toList) (Fin := fun h' => ∃ m ys z, Inn h L [] m cm [(D, lobj ys z)] h' ∧ m (Str.ofString "digits") = some (.ref D) ∧ Paired (fun i y => IntV y i) (digsF v bases) ys.toList) ?step ?done ?body ?els ?start ?fin
  case start => exact ⟨_, ⟨⟨_, _, _, I5, rfl, rfl, by exact .nil⟩, ⟨t, (up_ne (by decide)).trans m1⟩, up_eq⟩⟩
  case fin =>
    intro s' sm ⟨m', ys, zz, In, dg, prD⟩
    have z6 := z5.in sm rfl k0 In
    refine wpAny_execs_cons (wpAny_Return_some (nL z6 In.ns dg ?_))
    exact hQ _ _ D z6 In.keep (fun o e => (In.led _ (.head _)).2.2.2.2 o e) ⟨ys, ⟨zz, In.get (.head _)⟩, prD⟩
  case els =>
    intro s' E' J
    exact wpAny_execs_nil ⟨rfl, .refl _, J⟩
  case done =>
    intro s' E' Q' ⟨m', J⟩ hq
    obtain ⟨ys, zz, oI, In, c1, d1, prD⟩ := J.ex
    refine wpAny_pyNext_tuple_end hA'.h ⟨_, In.get (.head _), c1, d1⟩ ⟨_, In.get (.tail _ (.head _)), rfl, _, rfl⟩ (by simp [← Array.length_toList, ← hlen, bases]) fun h' he' => ⟨rfl, hq _ (.heap1 _ _) ⟨m', ys, zz, ?_, J.dg, prD⟩⟩
    exact (Inn.lose (l1 := []) In (fun b o hb e => he' b o hb e)).drop (.cons _ (.refl _))
  case step =>
    intro i s' E' Q' hi ⟨m', J⟩ hq
    obtain ⟨ys, zz, oI, In, c1, d1, prD⟩ := J.ex
    have hb : bases[i]? = some (bases.getD i 0) := by rw [List.getD_eq_getElem?_getD, List.getElem?_eq_getElem (by simpa [bases] using hi)]; rfl
    obtain ⟨val, hval, tb, rfl⟩ := Paired.get pr i _ hb
    refine wpAny_pyNext_tuple_item ⟨_, In.get (.head _), c1, d1⟩ ⟨_, In.get (.tail _ (.head _)), rfl, _, rfl⟩ (x := .int (bases.getD i 0) tb) (by simpa using hval) fun h' hit' hs' => ?_
    obtain ⟨oI', eI', c1', d1'⟩ := hit'
    have In' : Inn h L [] m' cm [(Ia, oI'), (T, tup items), (D, lobj ys zz)] h' := Inn.set (l1 := []) In (fun b o hb e => hs'.extBut b o hb e) eI' (not_isT_cls c1')
    refine wpAny_of_eq rfl (wpAny_assign_Name (st_L In' fun h'' t'' I'' hs'' => ?_))
    refine hq _ _ ((Sm.heap1 s' h').trans (.heap _ h'' t'')) ⟨_, _, tb, ⟨⟨ys, zz, oI', I'', c1', d1', prD⟩, ?_, ?_⟩, hb, rfl, up_eq⟩
    · obtain ⟨tv, hv⟩ := J.vl; exact ⟨tv, (up_ne (by decide)).trans hv⟩
    · exact (up_ne (by decide)).trans J.dg
  case body =>
    intro i val s' E' hi ⟨m', b, tb, J, hb, hval, hbase⟩
    subst hval
    obtain ⟨ys, zz, oI, In, c1, d1, prD⟩ := J.ex
    obtain ⟨tv, hv⟩ := J.vl
    have zs := At.here s'
    have hpos : b ≠ 0 ∧ b.natAbs < 1073741824 := by
      rcases (by omega : i = 0 ∨ i = 1 ∨ i = 2 ∨ i = 3 ∨ i = 4 ∨ i = 5 ∨ i = 6) with rfl | rfl | rfl | rfl | rfl | rfl | rfl <;> (cases hb; decide)
    have htk : bases.take (i + 1) = bases.take i ++ [b] := by rw [List.take_add_one, hb]; rfl
    refine wpAny_execs_cons (appendS (nL zs In.ns J.dg ⟨D, ys, zz, rfl, In.get (.tail _ (.tail _ (.head _))), ?_⟩))
    refine wpAny_BinOp (nL zs In.ns hv (nL zs In.ns hbase (modI zs hpos.1 fun t₂ s₂ z₂ => ?_)))
    refine ⟨ys, zz, z₂.hp ▸ In.get (.tail _ (.tail _ (.head _))), ?_, fun h' e' hs' => ?_⟩
    · have := prD.length
      have e1 : (digsF v (bases.take i)).length ≤ 7 := by
        have : ∀ (l : List Int) (v : Int), (digsF v l).length = l.length := by
          intro l; induction l with
          | nil => intro _; rfl
          | cons a r ih => intro v; show (digsF _ r).length + 1 = _; rw [ih]; rfl
        rw [this]
        have := List.length_take_le i bases
        have : bases.length = 7 := rfl
        omega
      have e2 : ys.size ≤ 7 := by rw [← Array.length_toList, ← this]; exact e1
      exact Nat.le_trans e2 (by decide)
    have In' : Inn h L [] m' cm [(Ia, oI), (T, tup items), (D, lobj (ys.push (.int ((valF v (bases.take i)).fmod b) t₂)) (zz + 1))] h' := Inn.set (l1 := [(Ia, oI), (T, tup items)]) (z₂.hp ▸ In) (fun b o hb e => hs'.extBut b o hb e) e' (not_isT_cls rfl)
    have z₃ : At ({ s₂ with heap := h' } : Shared) h' { s₂ with heap := h' } := At.here _
    refine wpAny_execs_cons (wpAny_Assign_Name (wpAny_BinOp (nL z₃ In'.ns hv (nL z₃ In'.ns hbase (fdivI z₃ hpos.1 hpos.2 fun t₄ s₄ z₄ => ?_)))))
    refine st_L (z₄.hp.symm ▸ In') fun h₅ t₅ I₅ hs₅ => wpAny_execs_nil ⟨?_, _, ⟨⟨_, _, oI, I₅, c1, d1, ?_⟩, ⟨t₄, ?_⟩, ?_⟩⟩
    · exact (z₂.sm.trans (.heap1 _ _)).trans (z₄.sm.trans (.heap _ _ _))
    · rw [htk, digsF_snoc, Array.toList_push]
      exact Paired.snoc prD ⟨_, rfl⟩
    · rw [htk, valF_snoc]
      exact up_eq
    · exact (up_ne (by decide)).trans J.dg
end
end Mine
end

section
open PySem PySem.Spec PySem.Calls PySem.W PyProof.Rows
set_option Elab.async false
namespace Mine
set_option maxRecDepth 100000
def shownF (row : Str) (r : Nat) : Bool := if 8 < r then inB "sStT" ⟨#[row.cps.getD (36 - 3 * r) 0]⟩ else inB "rwxst" ⟨#[row.cps.getD (9 - r) 0]⟩
section
variable {w : World} {mg mb : Mp} {A : Around} {s s₀ : Shared} {h : Heap} {Q E : Value → Shared → Prop}
theorem shown_c (z : At s₀ h s) (W : Wd (Mine.hd.heap_39 w.params) mg mb h) (hA : Rm 1 A) {row : Str} {r : Nat} {t u : Tok} (hrow : row.length = 10) (hr : r < 12)
    (hQ : ∀ h' s', At s₀ h' s' → Kp h h' → Q (.bool (shownF row r)) s') : wpAny (model PySem.Challenge.rw_tv0030_01.row.prog w) A (call (.ref 138) [.str row u, .int r t]) Q E s := by
  refine cD (f := 138) [(Str.ofString "row", .str row u), (Str.ofString "right", .int r t)] z W (by rfl) hA (by rfl) (BindsTo.of_eq rfl) (by rfl) (by rfl) (by decide) ?_
  intro L h₁ s₁ q m cm A' hA' hm hcm I z₁ k₁
  have m1 := hm _ _ (.head _) rfl
  have m2 := hm _ _ (.tail _ (.head _)) rfl
  refine wpAny_execs_cons (wpAny_If (wpAny_isTrue_Compare1 (nL z₁ I.ns m2 ?_)))
  repeat walk_at "mm"
  refine gt_int (wpAny_truthy_bool ?_)
  rename_i t₂ s₂ z₂
  unfold shownF at hQ
  by_cases h8 : 8 < r
  · rw [if_pos h8] at hQ
    rw [if_pos (by simp; omega)]
    refine wpAny_execs_cons (wpAny_Return_some (wpAny_Compare1 (sStr (nL z₂ I.ns m1 ?_))))
    repeat walk_at "mm"
    refine nL (by assumption) I.ns m2 (mulI (by assumption) (mul_small (by decide) (by decide)) ?_)
    intro t₃ s₃ z₃
    repeat walk_at "mm"
    have e1 : ((36 : Int) - 3 * (r : Int)).toNat = 36 - 3 * r := by omega
    refine ⟨_, _, row, _, _, _, by assumption, rfl, rfl, by omega, by omega, by omega, fun t₄ s₄ z₄ => ?_⟩
    refine cStr z₄ fun t₅ s₅ z₅ => in_str ?_
    rw [e1]
    exact hQ _ _ z₅ k₁
  · rw [if_neg h8] at hQ
    rw [if_neg (by simp; omega)]
    refine wpAny_execs_nil (wpAny_execs_cons (wpAny_Return_some (wpAny_Compare1 (sStr (nL z₂ I.ns m1 ?_)))))
    repeat walk_at "mm"
    refine nL (by assumption) I.ns m2 ?_
    repeat walk_at "mm"
    have e1 : ((9 : Int) - (r : Int)).toNat = 9 - r := by omega
    refine ⟨_, _, row, _, _, _, by assumption, rfl, rfl, by omega, by omega, by omega, fun t₄ s₄ z₄ => ?_⟩
    refine cStr z₄ fun t₅ s₅ z₅ => in_str ?_
    rw [e1]
    exact hQ _ _ z₅ k₁
end
end Mine
end

section
open PySem PySem.Spec PySem.Calls PySem.W PyProof.Rows
set_option Elab.async false
namespace Mine
set_option maxRecDepth 100000
def ftab : List (List (Nat × Nat)) := [[(40960, 108), (49152, 115), (32768, 45), (24576, 98), (16384, 100), (8192, 99), (4096, 112)], [(256, 114)], [(128, 119)], [(2112, 115), (2048, 83), (64, 120)],
  [(32, 114)], [(16, 119)], [(1032, 115), (1024, 83), (8, 120)], [(4, 114)], [(2, 119)], [(513, 116), (512, 84), (1, 120)]]
def hitF (i M b : Nat) : Bool := if i = 0 then M &&& 61440 == b else M &&& b == b
def selF (i M : Nat) : List (Nat × Nat) → Nat
  | [] => if i = 0 then 63 else 45
  | (b, c) :: r => if hitF i M b then c else selF i M r
def rowL (M : Nat) : List Nat := (List.range 10).map fun i => selF i M (ftab.getD i [])
def rowF (M : Nat) : Str := ⟨(rowL M).toArray⟩
def CharV (v : Value) (c : Nat) : Prop := ∃ t, v = .str ⟨#[c]⟩ t
def PairV (h : Heap) (bc : Nat × Nat) (u : Value) : Prop := ∃ p t t', u = .ref p ∧ h.get? p = some (tup #[.int bc.1 t, .str ⟨#[bc.2]⟩ t'])
def TabV (h : Heap) (tab : List (Nat × Nat)) (v : Value) : Prop := ∃ ta its, v = .ref ta ∧ h.get? ta = some (tup its) ∧ Paired (PairV h) tab its.toList
section
variable {w : World} {mg mb : Mp} {A : Around} {s s₀ : Shared} {h : Heap} {Q E : Value → Shared → Prop}
theorem ft (W : Wd (Mine.hd.heap_39 w.params) mg mb h) : ∃ items, h.get? 110 = some (tup items) ∧ items.size = 10 ∧ Paired (TabV h) ftab items.toList := by
  have K := W.k
  refine ⟨_, K 110 _ (by rfl), rfl, ?_⟩
  refine .cons ⟨_, _, rfl, K _ _ (by rfl), .cons ⟨_, _, _, rfl, K _ _ (by rfl)⟩ (.cons ⟨_, _, _, rfl, K _ _ (by rfl)⟩ (.cons ⟨_, _, _, rfl, K _ _ (by rfl)⟩ (.cons ⟨_, _, _, rfl, K _ _ (by rfl)⟩ (.cons ⟨_, _, _, rfl, K _ _ (by rfl)⟩ (.cons ⟨_, _, _, rfl, K _ _ (by rfl)⟩ (.cons ⟨_, _, _, rfl, K _ _ (by rfl)⟩ .nil))))))⟩ ?_
  refine .cons ⟨_, _, rfl, K _ _ (by rfl), .cons ⟨_, _, _, rfl, K _ _ (by rfl)⟩ .nil⟩ ?_
  refine .cons ⟨_, _, rfl, K _ _ (by rfl), .cons ⟨_, _, _, rfl, K _ _ (by rfl)⟩ .nil⟩ ?_
  refine .cons ⟨_, _, rfl, K _ _ (by rfl), .cons ⟨_, _, _, rfl, K _ _ (by rfl)⟩ (.cons ⟨_, _, _, rfl, K _ _ (by rfl)⟩ (.cons ⟨_, _, _, rfl, K _ _ (by rfl)⟩ .nil))⟩ ?_
  refine .cons ⟨_, _, rfl, K _ _ (by rfl), .cons ⟨_, _, _, rfl, K _ _ (by rfl)⟩ .nil⟩ ?_
  refine .cons ⟨_, _, rfl, K _ _ (by rfl), .cons ⟨_, _, _, rfl, K _ _ (by rfl)⟩ .nil⟩ ?_
  refine .cons ⟨_, _, rfl, K _ _ (by rfl), .cons ⟨_, _, _, rfl, K _ _ (by rfl)⟩ (.cons ⟨_, _, _, rfl, K _ _ (by rfl)⟩ (.cons ⟨_, _, _, rfl, K _ _ (by rfl)⟩ .nil))⟩ ?_
  refine .cons ⟨_, _, rfl, K _ _ (by rfl), .cons ⟨_, _, _, rfl, K _ _ (by rfl)⟩ .nil⟩ ?_
  refine .cons ⟨_, _, rfl, K _ _ (by rfl), .cons ⟨_, _, _, rfl, K _ _ (by rfl)⟩ .nil⟩ ?_
  exact .cons ⟨_, _, rfl, K _ _ (by rfl), .cons ⟨_, _, _, rfl, K _ _ (by rfl)⟩ (.cons ⟨_, _, _, rfl, K _ _ (by rfl)⟩ (.cons ⟨_, _, _, rfl, K _ _ (by rfl)⟩ .nil))⟩ .nil
theorem PairV.kp {h h' : Heap} (k : Kp h h') {bc u} (x : PairV h bc u) : PairV h' bc u := let ⟨p, t, t', e, g⟩ := x; ⟨p, t, t', e, k.get g (not_isT_cls rfl)⟩
theorem ifmt_c (z : At s₀ h s) (W : Wd (Mine.hd.heap_39 w.params) mg mb h) (hA : Rm 1 A) {M : Nat} {t : Tok}
    (hQ : ∀ h' s' t', At s₀ h' s' → Kp h h' → Q (.int (M &&& 61440 : Nat) t') s') : wpAny (model PySem.Challenge.rw_tv0030_01.row.prog w) A (call (.ref 77) [.int M t]) Q E s := by
  refine cD (f := 77) [(Str.ofString "mode", .int M t)] z W (by rfl) hA (by rfl) (BindsTo.of_eq rfl) (by rfl) (by rfl) (by decide) ?_
  intro L h₁ s₁ q m cm A' hA' hm hcm I z₁ k₁
  have m1 := hm _ _ (.head _) rfl
  refine wpAny_execs_cons (wpAny_Return_some (wpAny_BinOp (nL z₁ I.ns m1 (cInt z₁ fun t₂ s₂ z₂ => andI z₂ fun t₃ s₃ z₃ => ?_))))
  rw [show ((61440 : Int)) = ((61440 : Nat) : Int) from rfl, bitAnd_nat]
  exact hQ _ _ _ z₃ k₁
end
end Mine
end

section
open PySem PySem.Spec PySem.Calls PySem.W PyProof.Rows
set_option Elab.async false
namespace Mine
set_option maxRecDepth 100000
structure FJ (M : Nat) (D : Addr) (m : Mp) : Prop where
  perm : m (Str.ofString "perm") = some (.ref D)
  mode : ∃ t, m (Str.ofString "mode") = some (.int M t)
theorem FJ.up {M : Nat} {D : Addr} {m : Mp} (x : FJ M D m) {n : Str} {v : Value} (h1 : (Str.ofString "perm" == n) = false) (h2 : (Str.ofString "mode" == n) = false) : FJ M D (up m n v) :=
  ⟨(up_ne h1).trans x.perm, let ⟨t, e⟩ := x.mode; ⟨t, (up_ne h2).trans e⟩⟩
theorem selF_drop {i M : Nat} {tab : List (Nat × Nat)} {j b c : Nat} (h : tab[j]? = some (b, c)) : selF i M (tab.drop j) = if hitF i M b then c else selF i M (tab.drop (j + 1)) := by
  obtain ⟨hj, e⟩ := List.getElem?_eq_some_iff.mp h
  rw [List.drop_eq_getElem_cons hj, e]
  rfl
theorem chars : ∀ {cs : List Nat} {l : List Value}, Paired (fun c y => CharV y c) cs l → ∃ ps : List (Str × Tok), l = strValues ps ∧ ps.map (·.1) = cs.map fun c => (⟨#[c]⟩ : Str)
  | _, _, .nil => ⟨[], rfl, rfl⟩
  | _, _, .cons ⟨t, h⟩ r => by
    obtain ⟨ps, e1, e2⟩ := chars r
    exact ⟨(_, t) :: ps, by rw [h, e1]; rfl, by rw [List.map_cons, List.map_cons, e2]⟩
theorem join_ok (M : Nat) : JoinOk ⟨#[]⟩ ((rowL M).map fun c => (⟨#[c]⟩ : Str)) = true := by
  unfold rowL
  rfl
theorem join_row (M : Nat) : Txt.join ⟨#[]⟩ ((rowL M).map fun c => (⟨#[c]⟩ : Str)) = rowF M := by
  unfold rowF rowL
  rfl
section
variable {w : World} {mg mb : Mp} {A : Around} {s s₀ : Shared} {h : Heap} {Q E : Value → Shared → Prop}
set_option maxHeartbeats 8000000 in
theorem filemode_c (z : At s₀ h s) (W : Wd (Mine.hd.heap_39 w.params) mg mb h) (hA : Rm 2 A) {M : Nat} {t : Tok}
    (hQ : ∀ h' s' t', At s₀ h' s' → Kp h h' → Q (.str (rowF M) t') s') : wpAny (model PySem.Challenge.rw_tv0030_01.row.prog w) A (call (.ref 117) [.int M t]) Q E s := by
  refine cD (f := 117) [(Str.ofString "mode", .int M t)] z W (by rfl) hA (by rfl) (BindsTo.of_eq rfl) (by rfl) (by rfl) (by decide) ?_
  intro L h₁ s₁ q m cm A' hA' hm hcm I z₁ k₁
  have m1 := hm _ _ (.head _) rfl
  have k0 := z.kp0
  refine wpAny_execs_cons (wpAny_Assign_Name (mkList (wpAny_items_nil ⟨Nat.le_of_ble_eq_true rfl, _, _, z₁, fun D h₂ s₂ z₂ k₂ hD pl => ?_⟩)))
  obtain ⟨zD, eD⟩ := pl
  have I2 := I.new k₂ hD eD (not_isT_cls rfl)
  refine sL z₂ k0 I2 fun h₃ s₃ z₃ I3 hs3 => ?_
  obtain ⟨items, eT, hsz, pr⟩ := ft W
  have W₃ := W.kp I3.keep
  have eT₃ := I3.keep.get eT (not_isT_cls rfl)
  refine wpAny_execs_cons (wpAny_For ?_)
  refine cT z₃ W₃ (by rfl) (by decide +kernel : bootBuiltins "enumerate" = some (.type "enumerate")) (by decide) (wpAny_items_cons (nm_K (z₃.hp ▸ W₃) (by rfl) (wpAny_items_nil ?_)))
  have hz3 := z₃.hp
  subst hz3
  refine call_enumerate_tuple ⟨_, eT₃, rfl, _, rfl⟩ fun h₄ he₄ hi₄ hsz₄ hk₄ => ?_
  have nE : ∀ o, s₃.heap.get? (s₃.heap.objs.size + 1) ≠ some o := fun o e => absurd (Heap.lt_size e) (Nat.not_lt.mpr (Nat.le_succ _))
  have nI : ∀ o, s₃.heap.get? s₃.heap.objs.size ≠ some o := fun o e => absurd (Heap.lt_size e) (Nat.lt_irrefl _)
  refine wpAny_pyIter_enum he₄ ?_
  obtain ⟨oi₄, eoi₄, io₄⟩ := hi₄
  have I4 := I3.new2 (.of hk₄) nE nI (Nat.ne_of_gt (Nat.lt_succ_self _)) he₄ (not_isT_cls rfl) eoi₄ (not_isT_cls io₄.1)
  have z₄ : At s₀ h₄ { s₃ with heap := h₄ } := z₃.in (.heap1 _ _) rfl k0 I4
  have ne110 : (110 : Addr) ≠ s₃.heap.objs.size := fun e => nI _ (e ▸ eT₃)
  generalize s₃.heap.objs.size + 1 = e at he₄ I4 nE ⊢
  generalize s₃.heap.objs.size = it at he₄ I4 nI ne110 ⊢
  have hlen := pr.length
  refine for_any (n := 10) (J := fun i h' => ∃ m ys z old oi, Inn h L [] m cm [(e, enumO it i old), (it, oi), (D, lobj ys z)] h' ∧ IterO "tuple_iterator" 110 i oi ∧ Paired (fun c y => CharV y c) ((List.range i).map fun j => selF j M (ftab.getD j [])) ys.toList ∧ FJ M D m)
    (B := fun i v h' => ∃ m ys z old oi t x, Inn h L [] m cm [(e, enumO it (i + 1 : Nat) old), (it, oi), (D, lobj ys z)] h' ∧ IterO "tuple_iterator" 110 (i + 1) oi ∧ Paired (fun c y => CharV y c) ((List.range i).map fun j => selF j M (ftab.getD j [])) ys.toList ∧ FJ M D m ∧
      m (Str.ofString "index") = some (.int i t) ∧ m (Str.ofString "table") = some x ∧ TabV h (ftab.getD i []) x)
    (JD := fun h' => ∃ m ys z, Inn h L [] m cm [(D, lobj ys z)] h' ∧ FJ M D m ∧ Paired (fun c y => CharV y c) (rowL M) ys.toList)
    (Fin := fun h' => ∃ m ys z, Inn h L [] m cm [(D, lobj ys z)] h' ∧ FJ M D m ∧ Paired (fun c y => CharV y c) (rowL M) ys.toList) ?step ?done ?body ?els ?start ?fin
  case start =>
    exact ⟨_, _, _, _, _, I4, io₄, .nil, ⟨up_eq, t, (up_ne (by decide)).trans m1⟩⟩
  case els =>
    intro s' E' J
    exact wpAny_execs_nil ⟨rfl, .refl _, J⟩
  case done =>
    intro s' E' Q' ⟨m', ys, zz, old, oi, In, io, prD, fj⟩ hq
    refine done_enum hA'.h In io (.inr ⟨rfl, _, In.keep.get eT (not_isT_cls rfl), rfl, _, rfl⟩) ne110 hsz.symm fun s' sm In' => hq s' sm ⟨_, _, _, In', fj, prD⟩
  case step =>
    intro i s' E' Q' hi ⟨m', ys, zz, old, oi, In, io, prD, fj⟩ hq
    have hft : ftab[i]? = some (ftab.getD i []) := by rw [List.getD_eq_getElem?_getD, List.getElem?_eq_getElem (by exact hi)]; rfl
    obtain ⟨x, hx, tv⟩ := Paired.get pr i _ hft
    refine step_enum (env := mkE _ L [] q (some 117) _) hA'.h In io (.inr ⟨rfl, _, In.keep.get eT (not_isT_cls rfl), rfl, _, rfl⟩) ne110 (by simpa using hx) fun v s' oi' old' t sm In' io' => ?_
    exact hq _ _ sm ⟨_, _, _, _, _, t, x, In', io', prD, (fj.up (by decide) (by decide)).up (by decide) (by decide), (up_ne (by decide)).trans up_eq, up_eq, tv⟩
  case fin =>
    intro s' sm ⟨m', ys, zz, In, fj, prD⟩
    have z6 := z₄.in sm rfl k0 In
    refine wpAny_execs_cons (wpAny_Return_some (wpAny_Call_method (T := "str") (id := "str.join") rfl rfl rfl F.plainAttrs_str F.slot_str_join F.type_str_join (cStr z6 fun t₁ s₇ z₇ => ⟨typeIs_str _ _ _, (fun _ e => nomatch e), ?_⟩)))
    refine callWith_builtin (by rfl) (evalArgs_plain (wpAny_items_cons (nL z₇ In.ns fj.perm (wpAny_items_nil ?_))))
    obtain ⟨l, hl, el⟩ := chars prD
    have es : (rowL M).map (fun c => (⟨#[c]⟩ : Str)) = l.map (·.1) := el.symm
    refine SC.join (texts := (rowL M).map fun c => (⟨#[c]⟩ : Str)) (l := l) (D := D) ?_ es.symm ?_ fun t₂ k₂ => ?_
    · rw [z₇.hp, ← hl]
      exact ⟨_, In.get (.head _), rfl, zz, rfl⟩
    · exact join_ok M
    · have z₈ : At s₀ s'.heap { s₇ with toks := k₂ } := ⟨z₇.gr.trans (.tok _ _), z₇.hp⟩
      have := hQ _ _ t₂ z₈ In.keep
      rw [← join_row] at this
      exact this
  case body =>
    intro i v s' E' hi ⟨m', ys, zz, old, oi, ti, x, In, io, prD, fj, hidx, htab, ta, its, hxe, ea, prT⟩
    subst hxe
    have zs := At.here s'
    have eas := In.keep.get ea (not_isT_cls rfl)
    refine wpAny_execs_cons (wpAny_For (nL zs In.ns htab ?_))
    refine wpAny_pyIter_tuple ⟨_, eas, rfl, _, rfl⟩ ?_
    have nJ : ∀ o, s'.heap.get? s'.heap.objs.size ≠ some o := fun o e => absurd (Heap.lt_size e) (Nat.lt_irrefl _)
    have I5 := In.new (.push _ _) nJ (Heap.get?_push_size s'.heap (o := { cls := .type "tuple_iterator", data := .fields #[.ref ta, .int 0 0] }) rfl) (not_isT_cls rfl)
    generalize s'.heap.objs.size = Ia at nJ I5 ⊢
    generalize hs5 : ({ s' with heap := s'.heap.push { cls := .type "tuple_iterator", data := .fields #[.ref ta, .int 0 0] } } : Shared) = s₅
    have g5 : Sm s' s₅ := hs5 ▸ .heap1 _ _
    have I5' : Inn h L [] m' cm [(Ia, { cls := .type "tuple_iterator", data := .fields #[.ref ta, .int 0 0] }), (e, enumO it (i + 1 : Nat) old), (it, oi), (D, lobj ys zz)] s₅.heap := hs5 ▸ I5
    clear I5 hs5
    have hl2 := prT.length
    have hl3 : its.size = (ftab.getD i []).length := by rw [← Array.length_toList, hl2]
    generalize htabE : ftab.getD i [] = tab at prT hl2 hl3
    refine for_any (n := tab.length) (J := fun j h' => ∃ m oI, Inn h L [] m cm [(Ia, oI), (e, enumO it (i + 1 : Nat) old), (it, oi), (D, lobj ys zz)] h' ∧ IterO "tuple_iterator" ta j oI ∧ FJ M D m ∧ (∃ t, m (Str.ofString "index") = some (.int i t)) ∧ selF i M tab = selF i M (tab.drop j))
      (B := fun j v h' => ∃ m oI b c t u, Inn h L [] m cm [(Ia, oI), (e, enumO it (i + 1 : Nat) old), (it, oi), (D, lobj ys zz)] h' ∧ IterO "tuple_iterator" ta (j + 1) oI ∧ FJ M D m ∧ (∃ t, m (Str.ofString "index") = some (.int i t)) ∧ selF i M tab = selF i M (tab.drop j) ∧
        tab[j]? = some (b, c) ∧ m (Str.ofString "bit") = some (.int b t) ∧ m (Str.ofString "char") = some (.str ⟨#[c]⟩ u))
      (JD := fun h' => ∃ m, Inn h L [] m cm [(e, enumO it (i + 1 : Nat) old), (it, oi), (D, lobj ys zz)] h' ∧ FJ M D m ∧ (∃ t, m (Str.ofString "index") = some (.int i t)) ∧ selF i M tab = selF i M [])
      (Fin := fun h' => ∃ m y z', Inn h L [] m cm [(e, enumO it (i + 1 : Nat) old), (it, oi), (D, lobj (ys.push y) z')] h' ∧ FJ M D m ∧ CharV y (selF i M tab)) ?step2 ?done2 ?body2 ?els2 ?start2 ?fin2
    case start2 => exact ⟨_, _, I5', ⟨rfl, rfl⟩, fj, ⟨_, hidx⟩, rfl⟩
    case fin2 =>
      intro s₆ sm ⟨m₆, y, z', In₆, fj₆, cy⟩
      refine wpAny_execs_nil ⟨g5.trans sm, m₆, _, _, _, _, In₆, io, ?_, fj₆⟩
      rw [List.range_succ, List.map_append, Array.toList_push]
      subst htabE
      exact Paired.snoc prD cy
    case done2 =>
      intro s₆ E₆ Q₆ ⟨m₆, oI, In₆, io₆, fj₆, hi₆, hsel⟩ hq
      refine wpAny_pyNext_tuple_end hA'.h ⟨_, In₆.get (.head _), io₆⟩ ⟨_, In₆.keep.get ea (not_isT_cls rfl), rfl, _, rfl⟩ (by rw [← hl3]; simp) fun h' he' => ⟨rfl, hq _ (.heap1 _ _) ⟨m₆, ?_, fj₆, hi₆, ?_⟩⟩
      · exact Inn.lose (l1 := []) In₆ (fun b o hb e => he' b o hb e)
      · rw [hsel, List.drop_length]
    case step2 =>
      intro j s₆ E₆ Q₆ hj ⟨m₆, oI, In₆, io₆, fj₆, ⟨ti₆, hi₆⟩, hsel⟩ hq
      have htj : tab[j]? = some (tab[j]) := List.getElem?_eq_getElem hj
      obtain ⟨val, hval, p, tb, tc, rfl, ep⟩ := Paired.get prT j _ htj
      refine wpAny_pyNext_tuple_item ⟨_, In₆.get (.head _), io₆⟩ ⟨_, In₆.keep.get ea (not_isT_cls rfl), rfl, _, rfl⟩ (x := .ref p) (by simpa using hval) fun h' hit' hs' => ?_
      obtain ⟨oI', eI', io'⟩ := hit'
      have In' : Inn h L [] m₆ cm [(Ia, oI'), (e, enumO it (i + 1 : Nat) old), (it, oi), (D, lobj ys zz)] h' := Inn.set (l1 := []) In₆ (fun b o hb e => hs'.extBut b o hb e) eI' (not_isT_cls io'.1)
      refine own_ok (o := oI') eI' io'.1 (by decide) ?_
      refine assign2 (env := mkE _ L [] q (some 117) _) hA'.h In' ⟨_, In'.keep.get ep (not_isT_cls rfl), rfl, _, rfl⟩ fun s₇ sm₇ In₇ => ?_
      exact hq _ _ ((Sm.heap1 _ _).trans sm₇) ⟨_, _, _, _, tb, tc, In₇, io', (fj₆.up (by decide) (by decide)).up (by decide) (by decide), ⟨ti₆, ((up_ne (by decide)).trans (up_ne (by decide))).trans hi₆⟩, hsel, htj, (up_ne (by decide)).trans up_eq, up_eq⟩
    case els2 =>
      intro s₆ E₆ ⟨m₆, In₆, fj₆, ⟨ti₆, hi₆⟩, hsel⟩
      have z₆ := At.here s₆
      have hsz8 : ys.size ≤ 10 := by
        rw [← Array.length_toList, ← prD.length]; simp; omega
      refine wpAny_execs_cons (wpAny_If (wpAny_isTrue_Compare1 (nL z₆ In₆.ns hi₆ (cInt z₆ fun t₇ s₇ z₇ => eq_int (wpAny_truthy_bool ?_)))))
      by_cases h0 : i = 0
      · subst h0
        rw [if_pos (by rfl)]
        refine wpAny_execs_cons (appendS (nL z₇ In₆.ns fj₆.perm ⟨D, ys, zz, rfl, z₇.hp ▸ In₆.get (.tail _ (.tail _ (.head _))), cStr z₇ fun t₈ s₈ z₈ => ⟨ys, zz, z₈.hp ▸ In₆.get (.tail _ (.tail _ (.head _))), Nat.le_trans hsz8 (by decide), fun h' e' hs' => ?_⟩⟩))
        refine wpAny_execs_nil (wpAny_execs_nil ⟨rfl, z₈.sm.trans (.heap1 _ _), m₆, _, _, Inn.set (l1 := [(e, _), (it, oi)]) (z₈.hp ▸ In₆) (fun b o hb e => hs'.extBut b o hb e) e' (not_isT_cls rfl), fj₆, t₈, ?_⟩)
        rw [hsel]; rfl
      · rw [if_neg (by simp; omega)]
        refine wpAny_execs_cons (appendS (nL z₇ In₆.ns fj₆.perm ⟨D, ys, zz, rfl, z₇.hp ▸ In₆.get (.tail _ (.tail _ (.head _))), cStr z₇ fun t₈ s₈ z₈ => ⟨ys, zz, z₈.hp ▸ In₆.get (.tail _ (.tail _ (.head _))), Nat.le_trans hsz8 (by decide), fun h' e' hs' => ?_⟩⟩))
        refine wpAny_execs_nil (wpAny_execs_nil ⟨rfl, z₈.sm.trans (.heap1 _ _), m₆, _, _, Inn.set (l1 := [(e, _), (it, oi)]) (z₈.hp ▸ In₆) (fun b o hb e => hs'.extBut b o hb e) e' (not_isT_cls rfl), fj₆, t₈, ?_⟩)
        rw [hsel, selF, if_neg h0]; rfl
    case body2 =>
      intro j v s₆ E₆ hj ⟨m₆, oI, b, c, tb, tc, In₆, io₆, fj₆, ⟨ti₆, hi₆⟩, hsel, htj, hbit, hchar⟩
      have z₆ := At.here s₆
      have hsz8 : ys.size ≤ 10 := by
        rw [← Array.length_toList, ← prD.length]; simp; omega
      rw [selF_drop htj] at hsel
      obtain ⟨tm, hmode⟩ := fj₆.mode
      have Wx := W.kp In₆.keep
      refine wpAny_execs_cons (wpAny_If (wpAny_isTrue_Compare1 (nL z₆ In₆.ns hi₆ (cInt z₆ fun t₇ s₇ z₇ => eq_int (wpAny_truthy_bool ?_)))))
      by_cases h0 : i = 0
      · rw [if_pos (by subst h0; rfl)]
        refine wpAny_execs_cons (wpAny_If (wpAny_isTrue_Compare1 (cF z₇ Wx (by rfl) (by rfl) (wpAny_items_cons (nL z₇ In₆.ns hmode (wpAny_items_nil ⟨_, z₇, .refl _, ?_⟩))))))
        refine ifmt_c z₇ Wx hA' fun h₈ s₈ t₈ z₈ k₈ => ?_
        have In₈ := In₆.kp k₈
        refine nL z₈ In₈.ns hbit (eq_int (wpAny_truthy_bool ?_))
        have hcond : (((M &&& 61440 : Nat) : Int) == (b : Int)) = hitF i M b := by
          unfold hitF; rw [if_pos h0, Bool.eq_iff_iff]; simp only [beq_iff_eq]; omega
        rw [hcond]
        by_cases hb : hitF i M b = true
        · rw [if_pos hb]
          refine wpAny_execs_cons (appendS (nL z₈ In₈.ns fj₆.perm ⟨D, ys, zz, rfl, z₈.hp ▸ In₈.get (.tail _ (.tail _ (.tail _ (.head _)))), nL z₈ In₈.ns hchar ⟨ys, zz, z₈.hp ▸ In₈.get (.tail _ (.tail _ (.tail _ (.head _)))), Nat.le_trans hsz8 (by decide), fun h' e' hs' => ?_⟩⟩))
          refine wpAny_execs_cons (wpAny_Break ⟨z₈.sm.trans (.heap1 _ _), m₆, _, _, (Inn.set (l1 := [(Ia, oI), (e, _), (it, oi)]) (z₈.hp ▸ In₈) (fun b o hb e => hs'.extBut b o hb e) e' (not_isT_cls rfl)).drop (.cons _ (.refl _)), fj₆, tc, ?_⟩)
          rw [hsel, if_pos hb]
        · rw [if_neg hb]
          exact wpAny_execs_nil (wpAny_execs_nil (wpAny_execs_nil ⟨z₈.sm, m₆, oI, z₈.hp ▸ In₈, io₆, fj₆, ⟨ti₆, hi₆⟩, by rw [hsel, if_neg hb]⟩))
      · rw [if_neg (by simp; omega)]
        refine wpAny_execs_cons (wpAny_If (wpAny_isTrue_Compare1 (wpAny_BinOp (nL z₇ In₆.ns hmode (nL z₇ In₆.ns hbit (andI z₇ fun t₈ s₈ z₈ => ?_))))))
        rw [bitAnd_nat]
        refine nL z₈ In₆.ns hbit (eq_int (wpAny_truthy_bool ?_))
        have hcond : (((M &&& b : Nat) : Int) == (b : Int)) = hitF i M b := by
          unfold hitF; rw [if_neg h0, Bool.eq_iff_iff]; simp only [beq_iff_eq]; omega
        rw [hcond]
        by_cases hb : hitF i M b = true
        · rw [if_pos hb]
          refine wpAny_execs_cons (appendS (nL z₈ In₆.ns fj₆.perm ⟨D, ys, zz, rfl, z₈.hp ▸ In₆.get (.tail _ (.tail _ (.tail _ (.head _)))), nL z₈ In₆.ns hchar ⟨ys, zz, z₈.hp ▸ In₆.get (.tail _ (.tail _ (.tail _ (.head _)))), Nat.le_trans hsz8 (by decide), fun h' e' hs' => ?_⟩⟩))
          refine wpAny_execs_cons (wpAny_Break ⟨z₈.sm.trans (.heap1 _ _), m₆, _, _, (Inn.set (l1 := [(Ia, oI), (e, _), (it, oi)]) (z₈.hp ▸ In₆) (fun b o hb e => hs'.extBut b o hb e) e' (not_isT_cls rfl)).drop (.cons _ (.refl _)), fj₆, tc, ?_⟩)
          rw [hsel, if_pos hb]
        · rw [if_neg hb]
          exact wpAny_execs_nil (wpAny_execs_nil (wpAny_execs_nil ⟨z₈.sm, m₆, oI, z₈.hp ▸ In₆, io₆, fj₆, ⟨ti₆, hi₆⟩, by rw [hsel, if_neg hb]⟩))
end
end Mine
end

section
open PySem PySem.Spec PySem.Calls PySem.W PyProof.Rows
set_option Elab.async false
namespace Mine
set_option maxRecDepth 100000
theorem Paired.take {α β : Type} {F : α → β → Prop} : ∀ (n : Nat) {l₁ : List α} {l₂ : List β}, Paired F l₁ l₂ → Paired F (l₁.take n) (l₂.take n)
  | 0, _, _, _ => .nil
  | _ + 1, _, _, .nil => .nil
  | n + 1, _, _, .cons h t => .cons h (Paired.take n t)
theorem Paired.drop {α β : Type} {F : α → β → Prop} : ∀ (n : Nat) {l₁ : List α} {l₂ : List β}, Paired F l₁ l₂ → Paired F (l₁.drop n) (l₂.drop n)
  | 0, _, _, h => h
  | _ + 1, _, _, .nil => .nil
  | n + 1, _, _, .cons _ t => Paired.drop n t
theorem Paired.set {α β : Type} {F : α → β → Prop} {a : α} {b : β} (hab : F a b) : ∀ (n : Nat) {l₁ : List α} {l₂ : List β}, Paired F l₁ l₂ → Paired F (l₁.set n a) (l₂.set n b)
  | _, _, _, .nil => .nil
  | 0, _, _, .cons _ t => .cons hab t
  | n + 1, _, _, .cons h t => .cons h (Paired.set hab n t)
section
variable {prog : Program} {w : World} {A : Around} {E : Value → Shared → Prop} {s s₀ : Shared} {env : Env} {h : Heap} {Q : Value → Shared → Prop}
/-- a slice of a list of ints, up to b -/
theorem sliceTo {ve : Expr} {b : Nat} {k : Nat} {p p' pos : Pos} (q : wpAny (model prog w) A (eval ve env) (fun o s₁ => ∃ s₀ h l is, At s₀ h s₁ ∧ o = .ref l ∧ LI h l is ∧ is.length ≤ sizeLine ∧
      ∀ D h' s', At s₀ h' s' → Kp h h' → (∀ o, h.get? D ≠ some o) → LI h' D (is.take b) → Q (.ref D) s') E s)
    (ht : ∀ o r, letTemporaryGo ve o r = pure () := by intro _ _; rfl) :
    wpAny (model prog w) A (eval (.Subscript ve (.Slice none (some (.Constant (.int b) k p')) none p) pos) env) Q E s := by
  refine wpAny_Subscript_list_slice (wpAny_mono q (fun o s₁ h₁ => ?_) fun _ _ e => e) ht
  obtain ⟨s₀, h, l, is, z, rfl, ⟨ys, pl, pr⟩, hl, hQ⟩ := h₁
  rw [evalPart_none]
  refine wpAny_pure ?_
  rw [evalPart_some]
  refine cInt z fun t₄ s₄ z₄ => ⟨l, ys, none, some b, rfl, z₄.hp ▸ pl.isList, by have := pr.length; rw [← Array.length_toList]; omega, .none, .int _ _, ?_⟩
  have hz := z₄.hp
  subst hz
  have hs : ((s₄.heap.push { cls := .type "slice", data := .fields #[.none, .int b t₄, .none] })).objs.size = s₄.heap.objs.size + 1 := Heap.size_push ..
  refine hQ _ _ _ ((z₄.to (.push _ _)).to (.push _ _)) ((Kp.push _ _).trans (.push _ _)) (fun o e => absurd (Heap.lt_size e) (Nat.not_lt.mpr (Nat.le_succ _))) ⟨slicePick ys none (some b) none, ⟨_, by rw [← hs]; exact Heap.get?_push_size _ rfl⟩, ?_⟩
  rw [slicePick_upto']
  exact Paired.take b pr
theorem sliceFT {ve : Expr} {a b : Nat} {k k' : Nat} {p p' p'' pos : Pos} (q : wpAny (model prog w) A (eval ve env) (fun o s₁ => ∃ s₀ h l is, At s₀ h s₁ ∧ o = .ref l ∧ LI h l is ∧ is.length ≤ sizeLine ∧ b ≤ is.length ∧ a ≤ b ∧
      ∀ D h' s', At s₀ h' s' → Kp h h' → (∀ o, h.get? D ≠ some o) → LI h' D ((is.drop a).take (b - a)) → Q (.ref D) s') E s)
    (ht : ∀ o r, letTemporaryGo ve o r = pure () := by intro _ _; rfl) :
    wpAny (model prog w) A (eval (.Subscript ve (.Slice (some (.Constant (.int a) k' p'')) (some (.Constant (.int b) k p')) none p) pos) env) Q E s := by
  refine wpAny_Subscript_list_slice (wpAny_mono q (fun o s₁ h₁ => ?_) fun _ _ e => e) ht
  obtain ⟨s₀, h, l, is, z, rfl, ⟨ys, pl, pr⟩, hl, hb, hab, hQ⟩ := h₁
  rw [evalPart_some]
  refine cInt z fun t₃ s₃ z₃ => ?_
  rw [evalPart_some]
  refine cInt z₃ fun t₄ s₄ z₄ => ⟨l, ys, some a, some b, rfl, z₄.hp ▸ pl.isList, by have := pr.length; rw [← Array.length_toList]; omega, .int _ _, .int _ _, ?_⟩
  have hz := z₄.hp
  subst hz
  have hs : ((s₄.heap.push { cls := .type "slice", data := .fields #[.int a t₃, .int b t₄, .none] })).objs.size = s₄.heap.objs.size + 1 := Heap.size_push ..
  refine hQ _ _ _ ((z₄.to (.push _ _)).to (.push _ _)) ((Kp.push _ _).trans (.push _ _)) (fun o e => absurd (Heap.lt_size e) (Nat.not_lt.mpr (Nat.le_succ _))) ⟨slicePick ys (some a) (some b) none, ⟨_, by rw [← hs]; exact Heap.get?_push_size _ rfl⟩, ?_⟩
  rw [slicePick_run _ _ _ (by have := pr.length; rw [← Array.length_toList]; omega) hab]
  exact Paired.take _ (Paired.drop a pr)
end
section
variable {prog : Program} {w : World} {A : Around} {E : Value → Shared → Prop} {s : Shared}
theorem setItem_lobj {l : Addr} {items : Array Value} {n : Nat} {k : Int} {t : Tok} {v : Value} {Q : Unit → Shared → Prop} (ho : s.heap.get? l = some (lobj items n))
    (h0 : 0 ≤ k) (hfit : k < 2 ^ 63) (hn : k < items.size)
    (hQ : ∀ h' n', h'.get? l = some (lobj (items.setIfInBounds k.toNat v) n') → Heap.SameBut l s.heap h' → Q () { s with heap := h' }) :
    wpAny (model prog w) A (setItem (.ref l) (.int k t) v) Q E s := by
  have hl : s.heap.IsList l items := ⟨_, ho, rfl, n, rfl⟩
  have hd : (lobj items n).data = .seq items n := rfl
  unfold setItem
  try with_reducible refine wpAny_holding ?_
  first | refine wpAny_bind (wpAny_pure ?_) | skip
  refine wpAny_bind (wpAny_sequenceKey hl.typeIs (by decide) ?_)
  refine wpAny_bind (wpAny_callSpecial?_slot (name := Str.ofString "__setitem__") hl.typeIs slot_list_setitem
    (wpAny_call_entry slot_list_setitem hl.typeIs entry_list_setitem ?_ (args_list_setitem _ _ _)))
  show wpAny _ _ (Builtin.List.listSubscript? (.int k t) >>= _) _ _ s
  refine wpAny_bind (wpAny_listSubscript_int (fitsIndex_of h0 hfit) ?_)
  clear hfit
  obtain ⟨j, rfl⟩ := Int.eq_ofNat_of_zero_le h0
  have hj : j < items.size := by omega
  have hx' : items[j]? = some items[j] := Array.getElem?_eq_getElem hj
  show wpAny _ _ ((seqItemAt l j >>= fun r => pure (r.map (j, ·))) >>= _) _ _ s
  refine wpAny_bind (wpAny_bind (wpAny_seqItemAt ho hd (wpAny_pure ?_)))
  rw [hx']
  show wpAny _ _ (setSeqItemAt l j v >>= _) _ _ s
  obtain ⟨n', hd'⟩ := Obj.data_mapSeq hd (·.setIfInBounds j v)
  have hfin : (s.heap.update l (Obj.mapSeq (·.setIfInBounds j v))).get? l = some (lobj (items.setIfInBounds j v) n') := by
    rw [Heap.get?_update_self _ ho (Obj.isFreed_of_seq hd')]
    have : (Obj.mapSeq (·.setIfInBounds j v) (lobj items n)) = { cls := .type "list", data := (Obj.mapSeq (·.setIfInBounds j v) (lobj items n)).data } := rfl
    rw [this, hd']
  refine wpAny_bind (wpAny_setSeqItemAt ho hd ?_)
  exact wpAny_bind (wpAny_pure (wpAny_pure ⟨.none, rfl, wpAny_pure (hQ _ _ hfin (Heap.SameBut.update ..))⟩))
end
section
variable {w : World} {mg mb : Mp} {A : Around} {s s₀ : Shared} {h : Heap} {Q E : Value → Shared → Prop}
set_option maxHeartbeats 8000000 in
theorem cells_c (z : At s₀ h s) (W : Wd (Mine.hd.heap_39 w.params) mg mb h) (hA : Rm 1 A) {l : Addr} {xs : List Int} (hl : LI h l xs) (hlen : xs.length ≤ sizeLine)
    (hQ : ∀ h' s' D is, At s₀ h' s' → Kp h h' → (∀ o, h.get? D ≠ some o) → LI h' D is → is.length = 10 → Q (.ref D) s') : wpAny (model PySem.Challenge.rw_tv0030_01.row.prog w) A (call (.ref 124) [.ref l]) Q E s := by
  refine cD (f := 124) [(Str.ofString "script", .ref l)] z W (by rfl) hA (by rfl) (BindsTo.of_eq rfl) (by rfl) (by rfl) (by decide) ?_
  intro L h₁ s₁ q m cm A' hA' hm hcm I z₁ k₁
  have m1 := hm _ _ (.head _) rfl
  have k0 := z.kp0
  refine wpAny_execs_cons (wpAny_Assign_Name (mkList ?_))
  repeat walk_at "mm"
  refine ⟨Nat.le_of_ble_eq_true rfl, _, _, by assumption, fun D h₂ s₂ z₂ k₂ hD pl => ?_⟩
  obtain ⟨ys₀, zD, eD, pr₀⟩ : ∃ ys z, h₂.get? D = some (lobj ys z) ∧ ∃ is : List Int, is.length = 10 ∧ Paired (fun i y => IntV y i) is ys.toList :=
    ⟨_, _, pl.choose_spec, _, by rfl, .cons ⟨_, rfl⟩ (.cons ⟨_, rfl⟩ (.cons ⟨_, rfl⟩ (.cons ⟨_, rfl⟩ (.cons ⟨_, rfl⟩ (.cons ⟨_, rfl⟩ (.cons ⟨_, rfl⟩ (.cons ⟨_, rfl⟩ (.cons ⟨_, rfl⟩ (.cons ⟨_, rfl⟩ .nil)))))))))⟩
  clear pl
  have I2 := I.new k₂ hD eD (not_isT_cls rfl)
  refine sL z₂ k0 I2 fun h₃ s₃ z₃ I3 hs3 => ?_
  have W₃ := W.kp I3.keep
  refine wpAny_execs_cons (wpAny_For ?_)
  refine cT z₃ W₃ (by rfl) (by decide +kernel : bootBuiltins "enumerate" = some (.type "enumerate")) (by decide) (wpAny_items_cons ?_)
  refine sliceTo (b := 60) (nL z₃ I3.ns ((up_ne (by decide)).trans m1) ⟨_, _, l, xs, z₃, rfl, I3.keep.li hl, hlen, fun l₂ h₄ s₄ z₄ k₄ nl₂ li₂ => ?_⟩)
  generalize xs.take 60 = is₂ at li₂
  obtain ⟨its, ⟨zl, el⟩, pri⟩ := li₂
  have I4 := I3.new k₄ nl₂ el (not_isT_cls rfl)
  have hz4 := z₄.hp
  subst hz4
  refine wpAny_items_nil (call_enumerate_list ⟨_, el, rfl, _, rfl⟩ fun h₅ he₅ hi₅ hsz₅ hk₅ => ?_)
  have nE : ∀ o, s₄.heap.get? (s₄.heap.objs.size + 1) ≠ some o := fun o e => absurd (Heap.lt_size e) (Nat.not_lt.mpr (Nat.le_succ _))
  have nI : ∀ o, s₄.heap.get? s₄.heap.objs.size ≠ some o := fun o e => absurd (Heap.lt_size e) (Nat.lt_irrefl _)
  refine wpAny_pyIter_enum he₅ ?_
  obtain ⟨oi₅, eoi₅, io₅⟩ := hi₅
  have I5 := I4.new2 (.of hk₅) nE nI (Nat.ne_of_gt (Nat.lt_succ_self _)) he₅ (not_isT_cls rfl) eoi₅ (not_isT_cls io₅.1)
  have z₅ : At s₀ h₅ { s₄ with heap := h₅ } := z₄.in (.heap1 _ _) rfl k0 I5
  have nel : l₂ ≠ s₄.heap.objs.size := fun e => nI _ (e ▸ el)
  generalize s₄.heap.objs.size + 1 = e at he₅ I5 nE ⊢
  generalize s₄.heap.objs.size = it at he₅ I5 nI nel ⊢
  obtain ⟨is₀, hl₀, pr₀⟩ := pr₀
  have hlen := pri.length
  refine for_any (n := its.size) (J := fun i h' => ∃ m ys z old oi is, Inn h L [] m cm [(e, enumO it i old), (it, oi), (l₂, lobj its zl), (D, lobj ys z)] h' ∧ IterO "list_iterator" l₂ i oi ∧ Paired (fun i y => IntV y i) is ys.toList ∧ is.length = 10 ∧ m (Str.ofString "cells") = some (.ref D))
    (B := fun i v h' => ∃ m ys z old oi is t x u, Inn h L [] m cm [(e, enumO it (i + 1 : Nat) old), (it, oi), (l₂, lobj its zl), (D, lobj ys z)] h' ∧ IterO "list_iterator" l₂ (i + 1) oi ∧ Paired (fun i y => IntV y i) is ys.toList ∧ is.length = 10 ∧ m (Str.ofString "cells") = some (.ref D) ∧
      m (Str.ofString "at") = some (.int i t) ∧ m (Str.ofString "x") = some (.int x u))
    (JD := fun h' => ∃ m ys z is, Inn h L [] m cm [(l₂, lobj its zl), (D, lobj ys z)] h' ∧ Paired (fun i y => IntV y i) is ys.toList ∧ is.length = 10 ∧ m (Str.ofString "cells") = some (.ref D))
    (Fin := fun h' => ∃ m ys z is, Inn h L [] m cm [(l₂, lobj its zl), (D, lobj ys z)] h' ∧ Paired (fun i y => IntV y i) is ys.toList ∧ is.length = 10 ∧ m (Str.ofString "cells") = some (.ref D)) ?step ?done ?body ?els ?start ?fin
  case start =>
    exact ⟨_, _, _, _, _, _, I5, io₅, pr₀, hl₀, up_eq⟩
  case els =>
    intro s' E' J
    exact wpAny_execs_nil ⟨rfl, .refl _, J⟩
  case done =>
    intro s' E' Q' ⟨m', ys, zz, old, oi, is, In, io, prD, hlD, fj⟩ hq
    refine done_enum hA'.h In io (.inl ⟨rfl, _, In.get (.tail _ (.tail _ (.head _))), rfl, _, rfl⟩) nel rfl fun s' sm In' => hq s' sm ⟨_, _, _, _, In', prD, hlD, fj⟩
  case step =>
    intro i s' E' Q' hi ⟨m', ys, zz, old, oi, is, In, io, prD, hlD, fj⟩ hq
    obtain ⟨x, hx, tv, hxv⟩ := Paired.get' pri i its[i] (by simp [hi])
    refine step_enum (env := mkE _ L [] q (some 124) _) hA'.h In io (.inl ⟨rfl, _, In.get (.tail _ (.tail _ (.head _))), rfl, _, rfl⟩) nel (x := .int x tv) (by rw [← hxv]; simp [hi]) fun v s' oi' old' t sm In' io' => ?_
    exact hq _ _ sm ⟨_, _, _, _, _, _, t, x, tv, In', io', prD, hlD, ((up_ne (by decide)).trans (up_ne (by decide))).trans fj, (up_ne (by decide)).trans up_eq, up_eq⟩
  case fin =>
    intro s' sm ⟨m', ys, zz, is, In, prD, hlD, fj⟩
    have z6 := z₅.in sm rfl k0 In
    refine wpAny_execs_cons (wpAny_Return_some (nL z6 In.ns fj ?_))
    exact hQ _ _ D is z6 In.keep (fun o e => (In.led _ (.tail _ (.head _))).2.2.2.2 o e) ⟨ys, ⟨zz, In.get (.tail _ (.head _))⟩, prD⟩ hlD
  case body =>
    intro i v s' E' hi ⟨m', ys, zz, old, oi, is, t, x, u, In, io, prD, hlD, fj, hat, hxm⟩
    have zs := At.here s'
    have hys : ys.size = 10 := by rw [← Array.length_toList, ← prD.length, hlD]
    have hmod : ((i : Int).fmod 10).toNat < 10 ∧ 0 ≤ (i : Int).fmod 10 ∧ (i : Int).fmod 10 < 10 := by
      have := Int.fmod_nonneg_of_pos (i : Int) (b := 10) (by decide)
      have := Int.fmod_lt_of_pos (i : Int) (b := 10) (by decide)
      omega
    refine wpAny_execs_cons (wpAny_AugAssign_SubscriptAny (nL zs In.ns fj (wpAny_BinOp (nL zs In.ns hat (cInt zs fun t₂ s₂ z₂ => modI z₂ (by decide) fun t₃ s₃ z₃ => ?_)))))
    have eD := In.get (.tail _ (.tail _ (.tail _ (.head _))))
    obtain ⟨y, hy, ty, rfl⟩ := Paired.get prD ((i : Int).fmod 10).toNat (is.getD ((i : Int).fmod 10).toNat 0) (by rw [List.getD_eq_getElem?_getD, List.getElem?_eq_getElem (by omega)]; rfl)
    refine wpAny_getItem_list (items := ys) ⟨_, z₃.hp ▸ eD, rfl, _, rfl⟩ hmod.2.1 (by omega) (by simpa using hy) ?_
    refine nL z₃ In.ns hxm (wpAny_iadd_int ?_)
    refine setItem_lobj (z₃.hp ▸ eD) hmod.2.1 (by omega) (by omega) fun h₄ n₄ e₄ hs₄ => ?_
    refine wpAny_execs_nil ⟨(z₃.sm.trans (.tok _ _)).trans (.heap1 _ _), m', _, _, _, oi, is.set ((i : Int).fmod 10).toNat (is[((i : Int).fmod 10).toNat]?.getD 0 + x), Inn.set (l1 := [(e, _), (it, oi), (l₂, _)]) (z₃.hp ▸ In) (fun b o hb e => hs₄.extBut b o hb e) e₄ (not_isT_cls rfl), io, ?_, ?_, fj⟩
    · rw [Array.toList_setIfInBounds]
      exact Paired.set ⟨_, rfl⟩ _ prD
    · rw [List.length_set]; exact hlD
end
end Mine
end

section
open PySem PySem.Spec PySem.Calls PySem.W PyProof.Rows
set_option Elab.async false
namespace Mine
set_option maxRecDepth 100000
/-- a list of ints (scaled) or a list of floats -/
def DN (h : Heap) (l : Addr) (cs : List Int) : Prop := LF h l cs ∨ ∃ is, LI h l is ∧ cs = is.map (· * 2 ^ 18)
theorem Kp.dn {h h' : Heap} (k : Kp h h') {l is} (x : DN h l is) : DN h' l is := by
  rcases x with x | ⟨is, x, e⟩
  · exact .inl (k.lf x)
  · exact .inr ⟨is, k.li x, e⟩
def dots (cs ws : List Int) : List Int := List.zipWith (· * ·) cs ws
theorem dots_getD {cs ws : List Int} (h : cs.length = ws.length) (i : Nat) : (dots cs ws).getD i 0 = cs.getD i 0 * ws.getD i 0 := by
  unfold dots
  rw [List.getD_eq_getElem?_getD, List.getElem?_zipWith, List.getD_eq_getElem?_getD, List.getD_eq_getElem?_getD]
  by_cases hi : i < cs.length
  · rw [List.getElem?_eq_getElem hi, List.getElem?_eq_getElem (by omega)]; rfl
  · rw [List.getElem?_eq_none (by omega)]; simp
theorem sum_map_mul (k : Int) : ∀ l : List Int, (l.map (· * k)).sum = l.sum * k
  | [] => by simp
  | a :: r => by rw [List.map_cons, List.sum_cons, List.sum_cons, sum_map_mul k r, Int.add_mul]
theorem dots_bound {cs ws : List Int} (hl1 : cs.length = 4) (hl2 : ws.length = 4) (hb : ∀ c ∈ cs, c.natAbs ≤ 2 ^ 41) (hw : ∀ x ∈ ws, x.natAbs ≤ 16) : ∀ c ∈ dots cs ws, c.natAbs ≤ 2 ^ 45 := by
  intro c hc
  unfold dots at hc
  obtain ⟨i, hi, rfl⟩ := List.getElem_of_mem hc
  rw [List.getElem_zipWith, Int.natAbs_mul]
  have h1 := hb _ (List.getElem_mem (l := cs) (n := i) (by rw [List.length_zipWith] at hi; omega))
  have h2 := hw _ (List.getElem_mem (l := ws) (n := i) (by rw [List.length_zipWith] at hi; omega))
  calc _ ≤ 2 ^ 41 * 16 := Nat.mul_le_mul h1 h2
    _ = 2 ^ 45 := by decide
section
variable {prog : Program} {w : World} {A : Around} {E : Value → Shared → Prop} {s s₀ : Shared} {h : Heap} {Q : Value → Shared → Prop} {l1 l2 : Addr}
theorem call_sumprod_d (z : At s₀ h s) (hh : A.handled = none) {cs ws : List Int} (h1 : DN h l1 cs) (h2 : LI h l2 ws) (hl1 : cs.length = 4) (hl2 : ws.length = 4)
    (hb : ∀ c ∈ cs, c.natAbs ≤ 2 ^ 41) (hw : ∀ x ∈ ws, x.natAbs ≤ 16)
    (hQ : ∀ h' s' v, At s₀ h' s' → Kp h h' → NumV v (dots cs ws).sum → Q v s') : wpAny (model prog w) A (call (.builtin "math.sumprod") [.ref l1, .ref l2]) Q E s := by
  have hdl : (dots cs ws).length = 4 := by unfold dots; rw [List.length_zipWith]; omega
  have hdb : ∀ c ∈ dots cs ws, c.natAbs ≤ 2 ^ 45 := by
    intro c hc
    unfold dots at hc
    obtain ⟨i, hi, rfl⟩ := List.getElem_of_mem hc
    rw [List.getElem_zipWith, Int.natAbs_mul]
    have h1 := hb _ (List.getElem_mem (l := cs) (n := i) (by rw [List.length_zipWith] at hi; omega))
    have h2 := hw _ (List.getElem_mem (l := ws) (n := i) (by rw [List.length_zipWith] at hi; omega))
    calc _ ≤ 2 ^ 41 * 16 := Nat.mul_le_mul h1 h2
      _ = 2 ^ 45 := by decide
  rcases h1 with h1 | ⟨is, h1, rfl⟩
  · refine call_sumprod_f z hh (gs := ws.map (· * 2 ^ 18)) (ds := dots cs ws) (M := 2 ^ 45) h1 (h2.ln fun i hi => Nat.lt_of_le_of_lt (hw i hi) (by decide)) (by omega) (by rw [List.length_map]; omega) (by omega) (fun i hi => ?_) hdb (by rw [hdl]; decide) fun h' s' x t z' k hx => hQ h' s' _ z' k (.inl ⟨x, t, rfl, hx⟩)
    rw [dots_getD (by omega), List.getD_eq_getElem?_getD (l := ws.map _), List.getElem?_map]
    rw [List.getD_eq_getElem?_getD (l := ws)]
    cases ws[i]? with
    | none => simp
    | some x => simp [Int.mul_assoc]
  · rw [List.length_map] at hl1
    have hb' : ∀ i ∈ is, i.natAbs ≤ 2 ^ 23 := fun i hi => by
      have := hb _ (List.mem_map.mpr ⟨i, hi, rfl⟩)
      rw [Int.natAbs_mul] at this
      rw [show (2 ^ 18 : Int).natAbs = 2 ^ 18 from rfl] at this
      omega
    have hg : ∀ (l : List Int) (i : Nat) (B : Nat), (∀ x ∈ l, x.natAbs ≤ B) → (l.getD i 0).natAbs ≤ B := fun l i B hB => by
      rw [List.getD_eq_getElem?_getD]
      cases e : l[i]? with
      | none => exact Nat.zero_le _
      | some x => exact hB x (List.mem_of_getElem? e)
    refine call_sumprod_i z hh (M := 2 ^ 23) h1 h2 (by omega) (by omega) (fun i _ => hg _ _ _ hb') (fun i _ => Nat.le_trans (hg _ _ _ hw) (by decide)) (by rw [hl1]; decide) fun h' s' t z' k => hQ h' s' _ z' k (.inr ⟨_, t, rfl, ?_, ?_⟩)
    all_goals
      have e0 : (dots (is.map (· * 2 ^ 18)) ws).sum = preSum (fun i => is.getD i 0 * ws.getD i 0) is.length * 2 ^ 18 := by
        match is, ws, hl1, hl2 with
        | [a, b, c, d], [p, q, r, u], _, _ =>
          show a * 2 ^ 18 * p + (b * 2 ^ 18 * q + (c * 2 ^ 18 * r + (d * 2 ^ 18 * u + 0))) = (0 + a * p + b * q + c * r + d * u) * 2 ^ 18
          simp only [Int.add_mul, Int.mul_right_comm _ (2 ^ 18 : Int)]
          omega
    · have h3 := natAbs_sum_le hdb
      rw [e0, Int.natAbs_mul, hdl] at h3
      rw [show (2 ^ 18 : Int).natAbs = 2 ^ 18 from rfl] at h3
      omega
    · exact e0
end
theorem ty_list : typeOf (.type "list") = pure (.type "type") := by kernel_rfl
theorem ty_tuple : typeOf (.type "tuple") = pure (.type "type") := by kernel_rfl
theorem sub_list_list : isSubtype (.type "list") (.type "list") = pure true := by rw [isSubtype_type]; kernel_rfl
theorem sub_list_tuple : isSubtype (.type "list") (.type "tuple") = pure false := by rw [isSubtype_type]; kernel_rfl
theorem boot_len : bootBuiltins "len" = some (.builtin "len") := by decide +kernel
theorem boot_isinstance : bootBuiltins "isinstance" = some (.builtin "isinstance") := by decide +kernel
theorem boot_list : bootBuiltins "list" = some (.type "list") := by decide +kernel
theorem boot_tuple : bootBuiltins "tuple" = some (.type "tuple") := by decide +kernel
section
variable {w : World} {mg mb : Mp} {A : Around} {s s₀ : Shared} {h : Heap} {Q E : Value → Shared → Prop}
theorem fmean_w (z : At s₀ h s) (W : Wd (Mine.hd.heap_39 w.params) mg mb h) (hA : Rm 1 A) (hs0 : 0 < s.toks) {l1 l2 : Addr} {cs ws : List Int} {c : Int} (h1 : DN h l1 cs) (h2 : LI h l2 ws) (hl1 : cs.length = 4) (hl2 : ws.length = 4)
    (hb : ∀ c ∈ cs, c.natAbs ≤ 2 ^ 41) (hw : ∀ x ∈ ws, x.natAbs ≤ 16) (hs : ws.sum = 16) (hc : (dots cs ws).sum = c * 16)
    (hQ : ∀ h' s' x t, At s₀ h' s' → Kp h h' → Fl x c → t ≠ 0 → Q (.float x t) s') : wpAny (model PySem.Challenge.rw_tv0030_01.row.prog w) A (call (.ref 63) [.ref l1, .ref l2]) Q E s := by
  refine cDp (f := 63) [(Str.ofString "data", .ref l1), (Str.ofString "weights", .ref l2)] z W (by rfl) hA (by rfl) (binds_K (z.hp ▸ W.k) rfl (by rfl) rfl rfl rfl) (by rfl) (by rfl) (by decide) ?_
  intro L h₁ s₁ q m cm A' hA' hm hcm I z₁ k₁ hup0
  have m1 := hm _ _ (.head _) rfl
  have m2 := hm _ _ (.tail _ (.head _)) rfl
  have W₁ := W.kp k₁
  have k0 := z.kp0
  refine execs_up (wpAny_If (wpAny_isTrue_Compare1 (nL z₁ I.ns m2 ?_)))
  refine wpAny_Constant_none (is_none (wpAny_truthy_bool ?_))
  rw [if_neg (by simp)]
  refine wpAny_execs_nil fun hup1 => execs_up (wpAny_If (wpAny_isTrue_Not (wpAny_isTrue_value ?_)))
  refine cB z₁ W₁ (by rfl) boot_isinstance (by decide) (wpAny_items_cons (nL z₁ I.ns m2 (wpAny_items_cons (mkTup ?_))))
  refine wpAny_items_cons (nm_B (z₁.hp ▸ W₁) (by rfl) boot_list (by decide) (wpAny_items_cons (nm_B (z₁.hp ▸ W₁) (by rfl) boot_tuple (by decide) (wpAny_items_nil ⟨Nat.le_of_ble_eq_true rfl, _, _, z₁, fun h₂ s₂ z₂ k₂ eT => ?_⟩))))
  refine wpAny_items_nil ?_
  have I2 := I.kp k₂
  have h2' := I2.keep.li h2
  have h1' := I2.keep.dn h1
  obtain ⟨ys2, pl2, pr2⟩ := h2'
  have hz2 := z₂.hp
  subst hz2
  refine IsiPair.tupleOfB (Tx := "list") (b := true) (vs := [true, false]) (.cons (.of_true ty_list sub_list_list) (.cons (.of_false_list (by decide) ty_tuple sub_list_tuple) .nil)) pl2.isList.typeIs eT rfl fun tk => ?_
  have z₃ : At s₀ s₂.heap { s₂ with toks := tk } := ⟨z₂.gr.trans (.tok _ _), rfl⟩
  generalize ({ s₂ with toks := tk } : Shared) = s₃ at z₃ ⊢
  refine wpAny_truthy_bool ?_
  rw [if_neg (by simp)]
  have W₂ := W₁.kp k₂
  have li2 : LI s₂.heap l2 ws := ⟨ys2, pl2, pr2⟩
  refine wpAny_execs_nil fun hup2 => execs_up (wpAny_Try_except (wpAny_execs_cons (wpAny_Assign_Name ?_)))
  refine cKB z₃ W₂ (by rfl) (wpAny_items_cons (nL z₃ I2.ns m1 (wpAny_items_cons (nL z₃ I2.ns m2 (wpAny_items_nil ?_)))))
  refine call_sumprod_d z₃ hA'.h h1' li2 hl1 hl2 hb hw fun h₄ s₄ v z₄ k₄ hv => ?_
  have I4 := I2.kp k₄
  refine sL z₄ k0 I4 fun h₅ s₅ z₅ I5 hs5 => ?_
  refine wpAny_execs_nil (wpAny_execs_nil fun hup3 => execs_up (wpAny_Assign_Name ?_))
  have W₅ := W.kp I5.keep
  refine cKB z₅ W₅ (by rfl) (wpAny_items_cons (nL z₅ I5.ns ((up_ne (by decide)).trans m2) (wpAny_items_nil ?_)))
  refine call_fsum z₅ hA'.h ((I5.keep.li h2).ln fun i hi => Nat.lt_of_le_of_lt (hw i hi) (by decide)) (M := 2 ^ 22) (fun c hc => ?_) (by rw [List.length_map, hl2]; decide) fun h₆ s₆ x t z₆ k₆ hx => ?_
  · obtain ⟨i, hi, rfl⟩ := List.mem_map.mp hc
    rw [Int.natAbs_mul, show (2 ^ 18 : Int).natAbs = 2 ^ 18 from rfl]
    have := hw i hi
    omega
  have hx : Fl x (16 * 2 ^ 18) := hx.cast (by rw [sum_map_mul, hs])
  have I6 := I5.kp k₆
  refine sL z₆ k0 I6 fun h₇ s₇ z₇ I7 hs7 hup4 => ?_
  refine wpAny_execs_cons (wpAny_If (wpAny_isTrue_Not (wpAny_isTrue_value (nL z₇ I7.ns up_eq (truthy_float ?_)))))
  rw [hx.isZero, if_neg (by decide)]
  refine wpAny_execs_nil (wpAny_execs_cons (wpAny_Return_some (wpAny_BinOp (nL z₇ I7.ns ((up_ne (by decide)).trans up_eq) (nL z₇ I7.ns up_eq ?_)))))
  have hcb : c.natAbs < 2 ^ 53 := by
    have h3 := natAbs_sum_le (cs := dots cs ws) (M := 2 ^ 45) fun d hd => dots_bound hl1 hl2 hb hw d hd
    rw [hc, Int.natAbs_mul, show (dots cs ws).length = 4 by unfold dots; rw [List.length_zipWith]; omega, show (16 : Int).natAbs = 16 from rfl] at h3
    omega
  refine ndivP (by omega) hv ⟨x, t, rfl, hx⟩ (by decide) (c := c) (by rw [hc, Int.mul_assoc]) hcb fun y u k hu hy => ?_
  exact hQ _ _ y u ⟨z₇.gr.trans (.tok _ _), z₇.hp⟩ I7.keep hy hu
theorem fmean_1 (z : At s₀ h s) (W : Wd (Mine.hd.heap_39 w.params) mg mb h) (hA : Rm 1 A) {l1 : Addr} {cs : List Int} {c : Int} (h1 : LF h l1 cs) (hl1 : cs.length = 8)
    (hb : ∀ c ∈ cs, c.natAbs ≤ 2 ^ 41) (hc : cs.sum = c * 8)
    (hQ : ∀ h' s' x t, At s₀ h' s' → Kp h h' → Fl x c → Q (.float x t) s') : wpAny (model PySem.Challenge.rw_tv0030_01.row.prog w) A (call (.ref 63) [.ref l1]) Q E s := by
  refine cD (f := 63) [(Str.ofString "data", .ref l1), (Str.ofString "weights", .none)] z W (by rfl) hA (by rfl) (binds_K (z.hp ▸ W.k) rfl (by rfl) rfl rfl rfl) (by rfl) (by rfl) (by decide) ?_
  intro L h₁ s₁ q m cm A' hA' hm hcm I z₁ k₁
  have m1 := hm _ _ (.head _) rfl
  have m2 := hm _ _ (.tail _ (.head _)) rfl
  have W₁ := W.kp k₁
  have k0 := z.kp0
  refine wpAny_execs_cons (wpAny_If (wpAny_isTrue_Compare1 (nL z₁ I.ns m2 ?_)))
  refine wpAny_Constant_none (is_none (wpAny_truthy_bool ?_))
  rw [if_pos (by rfl)]
  have h1' := I.keep.lf h1
  obtain ⟨ys, pl, pr⟩ := h1'
  have hys : ys.size = 8 := by rw [← Array.length_toList, ← pr.length, hl1]
  refine wpAny_execs_cons (wpAny_Try_except (wpAny_execs_cons (wpAny_Assign_Name ?_)))
  refine cB z₁ W₁ (by rfl) boot_len (by decide) (wpAny_items_cons (nL z₁ I.ns m1 (wpAny_items_nil ?_)))
  refine call_len_list (z₁.hp ▸ pl.isList) (by rw [hys]; decide) ?_
  rw [hys]
  refine sC (h := h₁) (⟨z₁.gr.trans (.tok _ _), z₁.hp⟩) k0 I (.head _) (by rfl) fun h₃ s₃ z₃ I3 hs3 => ?_
  refine wpAny_execs_nil (wpAny_execs_nil (wpAny_execs_cons (wpAny_Assign_Name ?_)))
  have W₃ := W.kp I3.keep
  have en := I3.cell (Str.ofString "n", L + 1) (.head _)
  refine cKB z₃ W₃ (by rfl) (wpAny_items_cons (nL z₃ I3.ns m1 (wpAny_items_nil ?_)))
  refine call_fsum z₃ hA'.h (I3.keep.lf h1).ln (M := 2 ^ 41) hb (by rw [hl1]; decide) fun h₄ s₄ x t z₄ k₄ hx => ?_
  have I4 := I3.kp k₄
  refine sL z₄ k0 I4 fun h₅ s₅ z₅ I5 hs5 => ?_
  have en5 := I5.cell (Str.ofString "n", L + 1) (.head _)
  have hn : ∀ u, up cm (Str.ofString "n") (.int ((8 : Nat) : Int) u) (Str.ofString "n") = some (.int 8 u) := fun u => up_eq
  refine wpAny_execs_cons (wpAny_If (wpAny_isTrue_Not (wpAny_isTrue_value (nC z₅ (hn _ ▸ en5) (by rfl) (truthy_int ?_)))))
  rw [if_neg (by decide)]
  refine wpAny_execs_nil (wpAny_execs_cons (wpAny_Return_some (wpAny_BinOp (nL z₅ I5.ns up_eq (nC z₅ (hn _ ▸ en5) (by rfl) ?_)))))
  have hcb : c.natAbs < 2 ^ 53 := by
    have h3 := natAbs_sum_le hb
    rw [hc, Int.natAbs_mul, hl1, show (8 : Int).natAbs = 8 from rfl] at h3
    omega
  refine ndivi ⟨x, t, rfl, hx⟩ (by decide) (by decide) (c := c) hc hcb fun y u k hy => ?_
  exact hQ _ _ y u ⟨z₅.gr.trans (.tok _ _), z₅.hp⟩ I5.keep hy
end
end Mine
end

section
open PySem PySem.Spec PySem.Calls PySem.W PyProof.Rows
set_option Elab.async false
namespace Mine
set_option maxRecDepth 100000
def shF (ws : List Int) : List Int := [16 - ws.sum] ++ ws
def pickF (f : List Int) (s : Nat) : List Int := [f.getD s 0, f.getD (s ^^^ 1) 0, f.getD (s ^^^ 2) 0, f.getD (s ^^^ 4) 0]
def stepF (sh f : List Int) : List Int := (List.range 8).map fun s => (dots (pickF f s) sh).sum
def daysF (sh f : List Int) : Nat → List Int
  | 0 => f
  | d + 1 => stepF sh (daysF sh f d)
def scale (k : Nat) (f : List Int) : List Int := f.map (· * 2 ^ (18 - 4 * k))
theorem bitXor_small {s m : Nat} (hs : s < 8) (hm : m = 1 ∨ m = 2 ∨ m = 4) : Builtin.bitXor (s : Int) (m : Int) = ((s ^^^ m : Nat) : Int) ∧ s ^^^ m < 8 := by
  rcases (lt8 (by omega) : s = 0 ∨ s = 1 ∨ s = 2 ∨ s = 3 ∨ s = 4 ∨ s = 5 ∨ s = 6 ∨ s = 7) with rfl | rfl | rfl | rfl | rfl | rfl | rfl | rfl <;> rcases hm with rfl | rfl | rfl <;> decide
theorem daysF_len {sh f : List Int} (hf : f.length = 8) : ∀ d, (daysF sh f d).length = 8
  | 0 => hf
  | d + 1 => by show ((List.range 8).map _).length = 8; simp
theorem scale_len (k : Nat) (f : List Int) : (scale k f).length = f.length := List.length_map ..
theorem scale_getD (k : Nat) (f : List Int) (i : Nat) : (scale k f).getD i 0 = f.getD i 0 * 2 ^ (18 - 4 * k) := by
  unfold scale
  rw [List.getD_eq_getElem?_getD, List.getElem?_map, List.getD_eq_getElem?_getD]
  cases f[i]? with
  | none => simp
  | some x => rfl
theorem dots_scale (a b c d k : Int) (sh : List Int) (hs : sh.length = 4) : (dots [a * k, b * k, c * k, d * k] sh).sum = (dots [a, b, c, d] sh).sum * k := by
  match sh, hs with
  | [p, q, r, u], _ =>
    show a * k * p + (b * k * q + (c * k * r + (d * k * u + 0))) = (a * p + (b * q + (c * r + (d * u + 0)))) * k
    simp only [Int.add_mul, Int.mul_right_comm _ k, Int.add_zero]
theorem pick_scale (k : Nat) (f : List Int) (s : Nat) (sh : List Int) (hs : sh.length = 4) : (dots (pickF (scale k f) s) sh).sum = (dots (pickF f s) sh).sum * 2 ^ (18 - 4 * k) := by
  unfold pickF
  simp only [scale_getD]
  exact dots_scale _ _ _ _ _ _ hs
structure Sh (sh : List Int) : Prop where
  len : sh.length = 4
  sum : sh.sum = 16
  pos : ∀ x ∈ sh, 0 ≤ x
theorem Sh.le {sh : List Int} (h : Sh sh) : ∀ x ∈ sh, x.natAbs ≤ 16 := by
  obtain ⟨h1, h2, h3⟩ := h
  match sh, h1 with
  | [p, q, r, u], _ =>
    have hp := h3 p (by simp)
    have hq := h3 q (by simp)
    have hr := h3 r (by simp)
    have hu := h3 u (by simp)
    have h2 : p + (q + (r + (u + 0))) = 16 := h2
    intro x hx
    simp only [List.mem_cons, List.not_mem_nil, or_false] at hx
    rcases hx with rfl | rfl | rfl | rfl <;> omega
theorem mul_le_of {a p : Int} {X : Nat} (ha : a.natAbs ≤ X) (hp : 0 ≤ p) : -(X * p) ≤ a * p ∧ a * p ≤ X * p := by
  have h1 : -(X : Int) ≤ a := by omega
  have h2 : a ≤ (X : Int) := by omega
  refine ⟨?_, Int.mul_le_mul_of_nonneg_right h2 hp⟩
  rw [← Int.neg_mul]
  exact Int.mul_le_mul_of_nonneg_right h1 hp
theorem dots_le {sh : List Int} (h : Sh sh) {a b c d : Int} {X : Nat} (ha : a.natAbs ≤ X) (hb : b.natAbs ≤ X) (hc : c.natAbs ≤ X) (hd : d.natAbs ≤ X) : (dots [a, b, c, d] sh).sum.natAbs ≤ X * 16 := by
  obtain ⟨h1, h2, h3⟩ := h
  match sh, h1 with
  | [p, q, r, u], _ =>
    have e1 := mul_le_of ha (h3 p (by simp))
    have e2 := mul_le_of hb (h3 q (by simp))
    have e3 := mul_le_of hc (h3 r (by simp))
    have e4 := mul_le_of hd (h3 u (by simp))
    have h2 : p + (q + (r + (u + 0))) = 16 := h2
    have e5 : (X : Int) * p + X * q + X * r + X * u = X * 16 := by rw [← h2]; simp only [Int.mul_add, Int.mul_zero]; omega
    show (a * p + (b * q + (c * r + (d * u + 0)))).natAbs ≤ X * 16
    omega
theorem daysF_le {sh f : List Int} (h : Sh sh) {B : Nat} (hB : ∀ x ∈ f, x.natAbs ≤ B) : ∀ d, ∀ x ∈ daysF sh f d, x.natAbs ≤ B * 16 ^ d
  | 0 => fun x hx => by simpa using hB x hx
  | d + 1 => fun x hx => by
    have ih := daysF_le h hB d
    have g : ∀ i, ((daysF sh f d).getD i 0).natAbs ≤ B * 16 ^ d := fun i => by
      rw [List.getD_eq_getElem?_getD]
      cases e : (daysF sh f d)[i]? with
      | none => exact Nat.zero_le _
      | some y => exact ih y (List.mem_of_getElem? e)
    obtain ⟨s, _, rfl⟩ := List.mem_map.mp (show x ∈ (List.range 8).map (fun s => (dots (pickF (daysF sh f d) s) sh).sum) from hx)
    have := dots_le h (g s) (g (s ^^^ 1)) (g (s ^^^ 2)) (g (s ^^^ 4))
    rw [Nat.pow_succ, ← Nat.mul_assoc]
    exact this
/-- a list whose items stand for given ints by V -/
def VL (V : Int → Value → Prop) (h : Heap) (l : Addr) (cs : List Int) : Prop := ∃ ys, h.PlainList l ys ∧ Paired V cs ys.toList
theorem Kp.vl {V : Int → Value → Prop} {h h' : Heap} (k : Kp h h') {l is} (x : VL V h l is) : VL V h' l is := let ⟨ys, a, b⟩ := x; ⟨ys, k.list a, b⟩
def VD (k : Nat) (c : Int) (v : Value) : Prop := (k = 0 ∧ ∃ i t, v = .int i t ∧ c = i * 2 ^ 18) ∨ (0 < k ∧ FltV v c)
theorem VD.dn {k : Nat} {h : Heap} {l : Addr} {cs : List Int} (x : VL (VD k) h l cs) : DN h l cs := by
  obtain ⟨ys, pl, pr⟩ := x
  by_cases hk : k = 0
  · subst hk
    refine .inr ?_
    have : ∀ {cs : List Int} {vs : List Value}, Paired (VD 0) cs vs → ∃ is : List Int, Paired (fun i y => IntV y i) is vs ∧ cs = is.map (· * 2 ^ 18) := by
      intro cs vs p
      induction p with
      | nil => exact ⟨[], .nil, rfl⟩
      | cons hx _ ih =>
        obtain ⟨is, p', e⟩ := ih
        rcases hx with ⟨_, i, t, rfl, rfl⟩ | ⟨h, _⟩
        · exact ⟨i :: is, .cons ⟨t, rfl⟩ p', by rw [e]; rfl⟩
        · exact absurd h (Nat.lt_irrefl _)
    obtain ⟨is, p', e⟩ := this pr
    exact ⟨is, ⟨ys, pl, p'⟩, e⟩
  · exact .inl ⟨ys, pl, Paired.imp (fun c v hx => by
      rcases hx with ⟨h, _⟩ | ⟨_, h⟩
      · exact absurd h hk
      · exact h) pr⟩
theorem LI.vd {h : Heap} {l : Addr} {is : List Int} (x : LI h l is) : VL (VD 0) h l (scale 0 is) := by
  obtain ⟨ys, pl, pr⟩ := x
  refine ⟨ys, pl, ?_⟩
  unfold scale
  exact Paired.map _ (Paired.imp (fun i v ⟨t, e⟩ => .inl ⟨rfl, i, t, e, rfl⟩) pr)
section
variable {prog : Program} {w : World} {A : Around} {E : Value → Shared → Prop} {s s₀ : Shared} {h : Heap} {env : Env} {Q : Value → Shared → Prop} {ve se : Expr} {pos : Pos}
theorem sVL {V : Int → Value → Prop} (q : wpAny (model prog w) A (eval ve env) (fun o s₁ => wpAny (model prog w) A (eval se env) (fun i s₂ => ∃ s₀ h l cs k t, At s₀ h s₂ ∧ o = .ref l ∧ i = .int k t ∧ VL V h l cs ∧ 0 ≤ k ∧ k < cs.length ∧ cs.length < 2 ^ 63 ∧ ∀ v, V (cs.getD k.toNat 0) v → Q v s₂) E s₁) E s)
    (hs : ∀ o i, subscripted se false o i = operate [o, i] (getItem o i) := by intro _ _; rfl) : wpAny (model prog w) A (eval (.Subscript ve se pos) env) Q E s := by
  refine sub_list (wpAny_mono q (fun o s₁ h₁ => wpAny_mono h₁ (fun i s₂ h₂ => ?_) fun _ _ x => x) fun _ _ x => x) hs
  obtain ⟨s₀, h, l, cs, k, t, z, rfl, rfl, ⟨ys, pl, pr⟩, h0, hl, hlen, q⟩ := h₂
  have hk : cs[k.toNat]? = some (cs.getD k.toNat 0) := by
    rw [List.getD_eq_getElem?_getD, List.getElem?_eq_getElem (by omega)]; rfl
  obtain ⟨v, hv, hV⟩ := Paired.get pr _ _ hk
  exact ⟨l, ys, k, t, v, rfl, rfl, z.hp ▸ pl, h0, by omega, by simpa using hv, q v hV⟩
theorem cAddLists {l1 l2 : Addr} {is js : List Int} {A : Around} (z : At s₀ h s) (h1 : LI h l1 is) (h2 : LI h l2 js) (hsz : is.length + js.length ≤ 100)
    (q : ∀ D h' s', At s₀ h' s' → Kp h h' → (∀ o, h.get? D ≠ some o) → LI h' D (is ++ js) → Q (.ref D) s') : wpAny (model prog w) A (binaryOp .Add (.ref l1) (.ref l2)) Q E s := by
  have hz := z.hp
  subst hz
  obtain ⟨ys1, ⟨n1, e1⟩, p1⟩ := h1
  obtain ⟨ys2, ⟨n2, e2⟩, p2⟩ := h2
  have l1' := p1.length
  have l2' := p2.length
  refine PySem.P.add_list e1 e2 (q _ _ _ (z.to (.push _ _)) (.push _ _) (fun o e => absurd (Heap.lt_size e) (Nat.lt_irrefl _)) ⟨ys1 ++ ys2, ⟨_, Heap.get?_push_size _ rfl⟩, ?_⟩) ?_
  · rw [Array.toList_append]
    clear e1 e2 l1' l2' hsz q
    generalize ys1.toList = a at p1
    induction p1 with
    | nil => exact p2
    | cons hx _ ih => exact .cons hx ih
  · have : ys1.size + ys2.size ≤ 100 := by rw [← Array.length_toList, ← Array.length_toList, ← l1', ← l2']; exact hsz
    exact Nat.le_trans this (by decide)
end
end Mine
end

section
open PySem PySem.Spec PySem.Calls PySem.W PyProof.Rows
set_option Elab.async false
namespace Mine
set_option maxRecDepth 100000
abbrev rngO (i n : Nat) : Obj := { cls := .type "range_iterator", dict := none, data := .fields #[rawInt i, rawInt ((n : Int) - i), rawInt 1], slots := #[] }
structure DK (h₀ : Heap) (L : Addr) (oc : List (Str × Addr)) (Ia S l1 : Addr) (oS : Obj) (sh f : List Int) (d i k : Nat) (h : Heap) : Prop where
  ex : ∃ m cm D led1 led2, Inn h₀ L oc m cm (led1 ++ (Ia, rngO i d) :: led2) h ∧ cm (Str.ofString "worth") = some (.ref D) ∧ cm (Str.ofString "shares") = some (.ref S) ∧ (S, oS) ∈ led1 ++ (Ia, rngO i d) :: led2 ∧
    ((k = 0 ∧ D = l1) ∨ (0 < k ∧ ∃ ys z, (D, lobj ys z) ∈ led1 ++ led2 ∧ Paired (fun c y => FltP y c) (scale k (daysF sh f k)) ys.toList))
section
variable {w : World} {mg mb : Mp} {A : Around} {s s₀ : Shared} {h : Heap} {Q E : Value → Shared → Prop}
set_option maxHeartbeats 8000000 in
theorem days_c (z : At s₀ h s) (W : Wd (Mine.hd.heap_39 w.params) mg mb h) (hA : Rm 2 A) {l1 l2 : Addr} {f ws : List Int} {d : Nat} {t : Tok} (h1 : LI h l1 f) (h2 : LI h l2 ws) (hf : f.length = 8) (hws : ws.length = 3)
    (hS : Sh (shF ws)) (hB : ∀ x ∈ f, x.natAbs ≤ 7 * 2 ^ 19) (hd : 0 < d) (hd3 : d ≤ 3) (hs0 : 0 < s.toks)
    (hQ : ∀ h' s' D, At s₀ h' s' → Kp h h' → LP h' D (scale d (daysF (shF ws) f d)) → Q (.ref D) s') : wpAny (model PySem.Challenge.rw_tv0030_01.row.prog w) A (call (.ref 160) [.ref l1, .ref l2, .int d t]) Q E s := by
  refine cDp (f := 160) [(Str.ofString "worth", .ref l1), (Str.ofString "weights", .ref l2), (Str.ofString "days", .int d t)] z W (by rfl) hA (by rfl) (BindsTo.of_eq rfl) (by rfl) (by rfl) (by decide) ?_
  intro L h₁ s₁ q m cm A' hA' hm hcm I z₁ k₁ hup0
  have m2 := hm _ _ (.tail _ (.head _)) rfl
  have m3 := hm _ _ (.tail _ (.tail _ (.head _))) rfl
  have c1 := hcm _ _ (.head _) rfl
  have W₁ := W.kp k₁
  have k0 := z.kp0
  refine execs_up (wpAny_Assign_Name (wpAny_BinOp (mkList (wpAny_items_cons (wpAny_BinOp (cInt z₁ fun t₂ s₂ z₂ => ?_))))))
  refine cB z₂ W₁ (by rfl) boot_sum (by decide) (wpAny_items_cons (nL z₂ I.ns m2 (wpAny_items_nil ?_)))
  refine sumLI z₂ hA'.h (I.keep.li h2) fun h₃ s₃ t₃ z₃ k₃ => subI z₃ fun t₄ s₄ z₄ => wpAny_items_nil ⟨Nat.le_of_ble_eq_true rfl, _, _, z₄, fun a₅ h₅ s₅ z₅ k₅ n₅ pl₅ => ?_⟩
  have I5 := (I.kp k₃).kp k₅
  refine nL z₅ I5.ns m2 (cAddLists (is := [16 - ws.sum]) z₅ ⟨_, pl₅, .cons ⟨_, rfl⟩ .nil⟩ (I5.keep.li h2) (by simp [hws]) fun S h₆ s₆ z₆ k₆ nS liS => ?_)
  obtain ⟨ysS, ⟨nS', eS⟩, prS⟩ := liS
  have I6 := I5.new k₆ nS eS (not_isT_cls rfl)
  refine sC z₆ k0 I6 (.head _) (by rfl) fun h₇ s₇ z₇ I7 hs7 hup1 => ?_
  have W₇ := W.kp I7.keep
  refine wpAny_execs_cons (wpAny_For ?_)
  refine cT z₇ W₇ (by rfl) boot_range (by decide) (wpAny_items_cons (nL z₇ I7.ns m3 (wpAny_items_nil ?_)))
  have hz7 := z₇.hp
  subst hz7
  refine call_range_1 (wpAny_pyIter_range (IsRange.new ..) (small_one (by decide) (by omega) (by omega) (by omega)) ?_)
  have er : Builtin.Range.rangeSize 0 (d : Int) 1 = (d : Int) - (0 : Nat) := by rw [rangeSize_one, if_pos (by omega)]; omega
  rw [er]
  generalize hs8 : ({ s₇ with heap := s₇.heap.push { cls := .type "range", data := .fields #[.int 0 s₇.toks, .int d t, .int 1 (s₇.toks + 1)] }, toks := s₇.toks + 1 + 1 } : Shared) = s₈
  have g8 : Gr s₇ s₈ := hs8 ▸ ⟨.heap _ _ _, .push _ _⟩
  have z₈ := z₇.to g8
  have I8 := I7.kp g8.kp
  have nI : ∀ o, s₈.heap.get? s₈.heap.objs.size ≠ some o := fun o e => absurd (Heap.lt_size e) (Nat.lt_irrefl _)
  have I9 := I8.new (.push _ _) nI (Heap.get?_push_size s₈.heap (o := rngO 0 d) rfl) (not_isT_cls rfl)
  have z₉ := z₈.to (Gr.push s₈ (rngO 0 d))
  generalize s₈.heap.objs.size = Ia at nI I9 ⊢
  subst hs8
  have hfk := daysF_le hS hB
  refine for_anyP (n := d) (J := fun k h' => DK h L [(Str.ofString "shares", L + 2), (Str.ofString "worth", L + 1)] Ia S l1 (lobj ysS nS') (shF ws) f d k k h') (B := fun k v h' => DK h L [(Str.ofString "shares", L + 2), (Str.ofString "worth", L + 1)] Ia S l1 (lobj ysS nS') (shF ws) f d (k + 1) k h')
    (JD := fun h' => ∃ m cm D led, Inn h L [(Str.ofString "shares", L + 2), (Str.ofString "worth", L + 1)] m cm led h' ∧ cm (Str.ofString "worth") = some (.ref D) ∧ LP h' D (scale d (daysF (shF ws) f d)))
    (Fin := fun h' => ∃ m cm D led, Inn h L [(Str.ofString "shares", L + 2), (Str.ofString "worth", L + 1)] m cm led h' ∧ cm (Str.ofString "worth") = some (.ref D) ∧ LP h' D (scale d (daysF (shF ws) f d))) ?step ?done ?body ?els ?start ?fin
  case start => exact ⟨m, _, l1, [], _, I9, (up_ne (by decide)).trans c1, up_eq, .tail _ (.head _), .inl ⟨rfl, rfl⟩⟩
  case els =>
    intro s' E' J
    exact wpAny_execs_nil ⟨rfl, .refl _, J⟩
  case fin =>
    intro s' sm ⟨m', cm', D, led, In, hwm, lf⟩
    have z10 := z₉.in sm rfl k0 In
    have ec := In.cell (Str.ofString "worth", L + 1) (.tail _ (.head _))
    rw [hwm] at ec
    exact wpAny_execs_cons (wpAny_Return_some (nC z10 ec (by rfl) (hQ _ _ D z10 In.keep lf)))
  case done =>
    intro s' E' Q' J hq
    obtain ⟨m', cm', D, led1, led2, In, hwm, hsm, hSm, hD⟩ := J.ex
    have hio := In.get (List.mem_append_right _ (.head _))
    refine wpAny_pyNext_range_end hA'.h hio (by omega) fun h' he' => ⟨rfl, hq _ (.heap1 _ _) ⟨m', cm', D, _, Inn.lose In (fun b o hb e => he' b o hb e), hwm, ?_⟩⟩
    rcases hD with ⟨h0, _⟩ | ⟨_, ys, zz, hm', pr⟩
    · omega
    · exact ⟨ys, ⟨zz, (Inn.lose In (fun b o hb e => he' b o hb e)).get hm'⟩, pr⟩
  case step =>
    intro k s' E' Q' hk J hq
    obtain ⟨m', cm', D, led1, led2, In, hwm, hsm, hSm, hD⟩ := J.ex
    have hio := In.get (List.mem_append_right _ (.head _))
    refine wpAny_pyNext_range_item hio (by omega) fun h' hit' hs' => ?_
    have e2 : (d : Int) - ((k + 1 : Nat) : Int) = (d : Int) - k - 1 := by omega
    have hit2 : h'.get? Ia = some (rngO (k + 1) d) := by
      rw [rngO, e2]; exact hit'
    have In' := Inn.set In (fun b o hb e => hs'.extBut b o hb e) hit2 (not_isT_cls rfl)
    refine wpAny_of_eq rfl (wpAny_assign_Name (st_L In' fun h'' t'' I'' hs'' => ?_))
    refine hq _ _ ((Sm.heap s' h' _).trans (.heap _ h'' t'')) ⟨_, _, D, led1, led2, I'', hwm, hsm, ?_, hD⟩
    rcases List.mem_append.mp hSm with h | h
    · exact List.mem_append_left _ h
    · rcases List.mem_cons.mp h with e | h
      · have := congrArg (fun p : Addr × Obj => p.2.cls) e
        simp at this
      · exact List.mem_append_right _ (.tail _ h)
  case body =>
    intro k v s' E' hk J hup2
    obtain ⟨m', cm', D, led1, led2, In, hwm, hsm, hSm, hD⟩ := J.ex
    have zs := At.here s'
    have Wx := W.kp In.keep
    have ew : s'.heap.IsCell (L + 1) (some (.ref D)) := hwm ▸ In.cell (Str.ofString "worth", L + 1) (.tail _ (.head _))
    have es : s'.heap.IsCell (L + 2) (some (.ref S)) := hsm ▸ In.cell (Str.ofString "shares", L + 2) (.head _)
    have liS : LI s'.heap S (shF ws) := ⟨ysS, ⟨nS', In.get hSm⟩, prS⟩
    have vlD : VL (VD k) s'.heap D (scale k (daysF (shF ws) f k)) := by
      rcases hD with ⟨rfl, rfl⟩ | ⟨h0, ys, zz, hm', pr⟩
      · exact (In.keep.li h1).vd
      · refine ⟨ys, ⟨zz, In.get ?_⟩, Paired.imp (fun _ _ h => .inr ⟨h0, h.v⟩) pr⟩
        rcases List.mem_append.mp hm' with h | h
        · exact List.mem_append_left _ h
        · exact List.mem_append_right _ (.tail _ h)
    have hlen := daysF_len (sh := shF ws) hf
    refine wpAny_execs_cons (wpAny_Assign_Name (cmp (n := 8) (p := fun _ => true) (F := fun _ i y _ => FltP y ((scale (k + 1) (daysF (shF ws) f (k + 1))).getD i 0)) zs (sRange zs hA'.h Wx (by rfl) rfl (by decide)) (by decide) (fun h₀ C kh hC => turn_localP ?tests ?elt) ?hF ?hQ (by rfl) (by decide) (by decide)))
    case tests => intro i v s m cm E hi hv hm x; exact tests_no (i := i)
    case hF => intro k k' i y h h' _ _ f; exact f
    case elt =>
      intro i v s m cm E hi ⟨tv, hv⟩ hp hm x hup3
      subst hv
      have zc := At.here s
      have cw := x.keep.cell (kh.cell ew)
      have cs := x.keep.cell (kh.cell es)
      have vl := x.keep.vl (kh.vl vlD)
      have Wc := (Wx.kp kh).kp x.keep
      have hl8 : (scale k (daysF (shF ws) f k)).length = 8 := by rw [scale_len, hlen]
      have sub0 : ∀ {Q' : Value → Shared → Prop} {se : Expr} {ve : Expr} (j : Nat) (_ : j < 8), True := fun _ _ => trivial
      refine cFp zc Wc (by rfl) (by rfl) (wpAny_items_cons (mkList ?_))
      refine wpAny_items_cons (sVL (V := VD k) (nC zc cw (by rfl) (nL zc x.ns hm ⟨_, _, D, _, i, tv, zc, rfl, rfl, vl, by omega, by omega, by rw [hl8]; decide, fun v0 hv0 => ?_⟩)))
      refine wpAny_items_cons (sVL (V := VD k) (nC zc cw (by rfl) (wpAny_BinOp (nL zc x.ns hm (cInt zc fun t1 s1 z1 => xorI z1 fun t2 s2 z2 => ?_)))))
      obtain ⟨x1, b1⟩ := bitXor_small hi (m := 1) (.inl rfl)
      obtain ⟨x2, b2⟩ := bitXor_small hi (m := 2) (.inr (.inl rfl))
      obtain ⟨x4, b4⟩ := bitXor_small hi (m := 4) (.inr (.inr rfl))
      refine ⟨_, _, D, _, _, t2, z2, rfl, congrArg (fun n => Value.int n t2) x1, vl, by omega, by omega, by rw [hl8]; decide, fun v1 hv1 => ?_⟩
      refine wpAny_items_cons (sVL (V := VD k) (nC z2 cw (by rfl) (wpAny_BinOp (nL z2 x.ns hm (cInt z2 fun t3 s3 z3 => xorI z3 fun t4 s4 z4 => ?_)))))
      refine ⟨_, _, D, _, _, t4, z4, rfl, congrArg (fun n => Value.int n t4) x2, vl, by omega, by omega, by rw [hl8]; decide, fun v2 hv2 => ?_⟩
      refine wpAny_items_cons (sVL (V := VD k) (nC z4 cw (by rfl) (wpAny_BinOp (nL z4 x.ns hm (cInt z4 fun t5 s5 z5 => xorI z5 fun t6 s6 z6 => ?_)))))
      refine ⟨_, _, D, _, _, t6, z6, rfl, congrArg (fun n => Value.int n t6) x4, vl, by omega, by omega, by rw [hl8]; decide, fun v4 hv4 => ?_⟩
      refine wpAny_items_nil ⟨Nat.le_of_ble_eq_true rfl, _, _, z6, fun a h7 s7 z7 k7 n7 pl7 => ?_⟩
      refine wpAny_items_cons (nC z7 (k7.cell cs) (by rfl) (wpAny_items_nil fun hup4 => ⟨h7, z7, k7, ?_⟩))
      have vl7 : VL (VD k) h7 a (pickF (scale k (daysF (shF ws) f k)) i) := ⟨_, pl7, .cons hv0 (.cons hv1 (.cons hv2 (.cons hv4 .nil)))⟩
      have hd4 : k = 0 ∨ k = 1 ∨ k = 2 := by omega
      have hg : ∀ j, ((daysF (shF ws) f k).getD j 0).natAbs ≤ 7 * 2 ^ 19 * 16 ^ k := fun j => by
        rw [List.getD_eq_getElem?_getD]
        cases e : (daysF (shF ws) f k)[j]? with
        | none => exact Nat.zero_le _
        | some y => exact hfk k y (List.mem_of_getElem? e)
      have hg2 : ∀ j, ((scale k (daysF (shF ws) f k)).getD j 0).natAbs ≤ 2 ^ 41 := fun j => by
        rw [scale_getD, Int.natAbs_mul]
        have := hg j
        rcases hd4 with rfl | rfl | rfl
        · exact Nat.le_trans (Nat.mul_le_mul this (Nat.le_refl _)) (by decide)
        · exact Nat.le_trans (Nat.mul_le_mul this (Nat.le_refl _)) (by decide)
        · exact Nat.le_trans (Nat.mul_le_mul this (Nat.le_refl _)) (by decide)
      refine fmean_w z7 (Wc.kp k7) hA' (by have h2 : s₇.toks + 1 + 1 ≤ s'.toks := hup2; omega) (VD.dn vl7) (k7.li (x.keep.li (kh.li liS))) rfl hS.len (fun c hc => ?_) hS.le hS.sum (c := (scale (k + 1) (daysF (shF ws) f (k + 1))).getD i 0) ?_ fun h8 s8 y u z8 k8 hy hu => ⟨⟨y, u, rfl, hu, hy⟩, z8.gr⟩
      · unfold pickF at hc
        simp only [List.mem_cons, List.not_mem_nil, or_false] at hc
        rcases hc with rfl | rfl | rfl | rfl <;> exact hg2 _
      · rw [pick_scale k _ i _ hS.len, scale_getD]
        have e1 : (daysF (shF ws) f (k + 1)).getD i 0 = (dots (pickF (daysF (shF ws) f k) i) (shF ws)).sum := by
          show ((List.range 8).map fun s => (dots (pickF (daysF (shF ws) f k) s) (shF ws)).sum).getD i 0 = _
          rw [List.getD_eq_getElem?_getD, List.getElem?_map, List.getElem?_range hi]
          rfl
        rw [e1, Int.mul_assoc]
        rcases hd4 with rfl | rfl | rfl <;> rfl
    case hQ =>
      intro D' kk h₂ s₂ ys z₂ k₂ hD' pl pr
      obtain ⟨z', eD'⟩ := pl
      have In₂ := In.new k₂ hD' eD' (not_isT_cls rfl)
      refine st_C (z₂.hp.symm ▸ In₂) (.tail _ (.head _)) (by rfl) fun h₃ t₃ I₃ hs₃ => wpAny_execs_nil ⟨z₂.sm.trans (.heap _ _ _), m', _, D', (D', lobj ys z') :: led1, led2, I₃, up_eq, (up_ne (by decide)).trans hsm, .tail _ hSm, .inr ⟨by omega, ys, z', .head _, ?_⟩⟩
      have pr2 := Paired.map (F := fun c y => FltP y c) (fun i => (scale (k + 1) (daysF (shF ws) f (k + 1))).getD i 0) pr
      have e : ((List.range 8).filter fun _ => true).map (fun i => (scale (k + 1) (daysF (shF ws) f (k + 1))).getD i 0) = scale (k + 1) (daysF (shF ws) f (k + 1)) := by
        have h8 : (scale (k + 1) (daysF (shF ws) f (k + 1))).length = 8 := by rw [scale_len, hlen]
        generalize scale (k + 1) (daysF (shF ws) f (k + 1)) = g at h8
        match g, h8 with
        | [_, _, _, _, _, _, _, _], _ => rfl
      rw [e] at pr2
      exact pr2
end
end Mine
end

section
open PySem PySem.Spec PySem.Calls PySem.W PyProof.Rows
set_option Elab.async false
namespace Mine
set_option maxRecDepth 100000
/-- the module "builtins" as the globals name it -/
def BMo (mg : Mp) (h : Heap) : Prop := ∃ bm ob, mg "__builtins__" = some (.ref bm) ∧ bm ≠ builtinsNs ∧ h.get? bm = some ob ∧ ob.cls = .type "module" ∧ ob.dict = some builtinsNs ∧ ob.data = .plain
theorem Kp.bmo {mg : Mp} {h h' : Heap} (k : Kp h h') (x : BMo mg h) : BMo mg h' :=
  let ⟨bm, ob, a, b, e, c, r⟩ := x; ⟨bm, ob, a, b, k.get e (not_isT_cls c), c, r⟩
/-- the code object c has a table -/
def TB (h : Heap) (c : Addr) : Prop := ∃ ps, CodeHd h c 65 ∧ h.get? 65 = some (tobj ps) ∧ TriplesOk ps.toList
theorem Kp.tb {c : Addr} {h h' : Heap} (k : Kp h h') (x : TB h c) : TB h' c := by
  obtain ⟨ps, ⟨o, vs, file, tf, flags, tg, inF, text, tt, e1, e2, r⟩, eP, ok⟩ := x
  have hd : CodeHd h' c 65 := ⟨o, vs, file, tf, flags, tg, inF, text, tt, k.get e1 (not_isT_cls e2), e2, r⟩
  rcases k _ _ eP with e | ⟨ps', more, e3, e⟩
  · exact ⟨ps, hd, e, ok⟩
  · have : ps = ps' := by injection e3 with _ _ h3 _; injection h3
    subst this
    exact ⟨_, hd, e, more.2.1 ok⟩
theorem triples_snoc {ps : Array Value} (a b : Int) (v : Value) : TriplesOk ps.toList → TriplesOk (ps ++ #[rawInt a, rawInt b, v]).toList := by
  intro h
  rw [Array.toList_append]
  exact TriplesOk_snoc _ _ _ _ h
section
variable {M : Model} {A : Around} {E : Value → Shared → Prop} {s s₀ : Shared} {h : Heap} {env : Env} {Q : Value → Shared → Prop}
/-- the code of a generator expression: made once, found again later -/
theorem gen_code {c : Addr} {pos : Pos} {qual : Str} {scope : Scope} (z : At s₀ h s) (T : TB h c) (hcode : env.code = .ref c) (hQ : ∀ cv h' s', At s₀ h' s' → Kp h h' → s'.gens = s.gens → Q cv s') : wpAny M A (genexprCode env pos qual scope) Q E s := by
  have hz := z.hp
  subst hz
  obtain ⟨ps, hd, eP, ok⟩ := T
  cases hf : codeAmong pos ps.toList with
  | some cv => exact wpAny_genexprCode_hit hcode (hd.code eP ok) hf (hQ cv _ s z (.refl _) rfl)
  | none =>
    refine wpAny_genexprCodeX hcode (hd.code eP ok) (hd.tab eP) hf fun c' h' tk hx hge hlt _ _ htb _ => ?_
    have k : Kp s.heap h' := by
      intro b o e
      by_cases hb : b = 65
      · subst hb
        rw [eP] at e
        cases e
        exact .inr ⟨ps, ⟨_, triples_snoc _ _ _, rfl⟩, rfl, htb.2⟩
      · exact .inl (hx b o hb e)
    exact hQ _ h' _ (z.to ⟨.heap _ _ _, k⟩) k rfl
end
theorem GenAt.move {prog : Program} {w : World} {A : Around} {a : Addr} {g : Nat} {C : Addr} {fp wr : List Addr} {pz : Nat → Bool} {n₀ : Nat} {F : Nat → Value → Prop} {j : Nat} {s s' : Shared} (st : GenAt prog w A a g C fp wr pz n₀ F j s)
    (hcs : cStatics ∈ fp) (hg : s'.gens[g]? = s.gens[g]?) (hk : ∀ b ∈ a :: C :: fp, ∀ o, s.heap.get? b = some o → s'.heap.get? b = some o) : GenAt prog w A a g C fp wr pz n₀ F j s' :=
  ⟨let ⟨o, nm, qn, ho, r⟩ := st.1; ⟨o, nm, qn, hk a (List.mem_cons_self ..) o ho, r⟩,
   (let ⟨mc, hns, hnn⟩ := st.2.1; ⟨mc, hns.at' fun o e => hk cStatics (List.mem_cons_of_mem _ (List.mem_cons_of_mem _ hcs)) o e, hnn⟩),
   let ⟨gs, hgs, hgo⟩ := st.2.2; ⟨gs, hg.trans hgs, fun s'' hal => hgo s'' fun b hb o e => hal b hb o (hk b (List.mem_cons_of_mem _ hb) o e)⟩⟩
section
variable {prog : Program} {w : World} {A : Around} {E : Value → Shared → Prop} {s s₀ : Shared} {h : Heap} {env : Env} {Q : Value → Shared → Prop}
theorem gen_own {elt iter : Expr} {x : Str} {px : Pos} {scope : Scope} {cl : List (Str × Addr)} {pos : Pos} {c l cc : Addr} {items : Array Value} {F : Nat → Value → Prop} {mg : Mp}
    (z : At s₀ h s) (hh : A.handled = none) (hroom : A.depth < recursionLimit) (nl : h.NoLimit) (pl : h.PlainList l items) (T : TB h c) (hcode : env.code = .ref c) (B : BMo mg h) (hg : h.Ns mainGlobals mg) (hcc : ∃ v, h.IsCell cc v)
    (hit : ∀ (Q' E' : Value → Shared → Prop), Q' (.ref l) s → wpAny (model prog w) A (eval iter env) Q' E' s)
    (hF : ∀ (C : Addr) (code : Value) (bi : Addr) (A' : Around) (E' : Value → Shared → Prop) i v (s₂ : Shared) m₂, A'.handled = none → items[i]? = some v → s₂.heap.Ns C m₂ → m₂ x = some v → (∀ v, h.IsCell cc v → s₂.heap.IsCell cc v) →
      wpAny (model prog w) A' (eval elt (genEnv scope cl C code bi env)) (fun y s₃ => F i y ∧ Keeps s₂ s₃) E' s₂)
    (hQ : ∀ h' s' a C I g St, At s₀ h' s' → Kp h h' → (∀ o, h.get? a ≠ some o) → (∀ o, h.get? C ≠ some o) → (∀ o, h.get? I ≠ some o) → @LT.lt Nat _ I C → @LT.lt Nat _ C a → s.gens.size ≤ g → g < s'.gens.size → h.objs.size ≤ I → (∀ k, k < s.gens.size → s'.gens[k]? = s.gens[k]?) → (∀ b ∈ [a, C, I, l, cc, cStatics], ∃ o, h'.get? b = some o ∧ ¬ isT o) →
      WG prog w A.in1 a [a, C, I, l, cc, cStatics] [C, I] g (passing (fun _ => true) items.size 0).length (fun j y => ∃ i, (passing (fun _ => true) items.size 0)[j]? = some i ∧ F i y) St → St 0 s' → (∃ o, h'.get? a = some o) → Q (.ref a) s')
    (hge : env.globals = mainGlobals := by rfl) (hco : scope.isCoroutine = false := by rfl) (hclos : closureFor scope env = pure cl := by rfl) (hcell : ∀ y ∈ scope.names, y.2 ≠ .cell := by decide) (h0 : scope.names.lookup (".0" : Str) = some NameKind.local := by rfl)
    (hx : scope.names.lookup x = some .local := by rfl) (hkind : scope.kind = .function := by rfl) (hs : ∀ x, genFold iter env x = pure x := by intro _; rfl) :
    wpAny (model prog w) A (eval (.GeneratorExp elt [⟨.Name x px, iter, [], 0⟩] scope pos) env) Q E s := by
  have hz := z.hp
  subst hz
  refine wpAny_GeneratorExp_make hco hclos hcell h0 hkind hroom (hit _ _ (wpAny_pyIter_list pl.isList ⟨nl.push _, ?_⟩)) hs
  have nI : ∀ o, s.heap.get? s.heap.objs.size ≠ some o := fun o e => absurd (Heap.lt_size e) (Nat.lt_irrefl _)
  generalize hI : s.heap.objs.size = I at nI
  have z2 := z.to (Gr.push s { cls := .type "list_iterator", data := .fields #[.ref l, .int 0 0] })
  have kp2 : Kp s.heap (s.heap.push { cls := .type "list_iterator", data := .fields #[.ref l, .int 0 0] }) := .push _ _
  refine gen_code z2 (kp2.tb T) hcode fun code h₃ s₃ z₃ k₃ hgn => ?_
  have kp3 := kp2.trans k₃
  obtain ⟨bm, ob, b1, b2, b3, b4, b5, b6⟩ := kp3.bmo B
  have hz3 := z₃.hp
  subst hz3
  refine wpAny_builtinsFor (hge ▸ kp3.ns hg) b1 b2 b3 b4 b5 b6 ?_
  intro h' hn' hs'
  have hsz : h'.objs.size = s₃.heap.objs.size + 1 := by rw [hs'.1, Heap.size_push]
  have keep' : ∀ b o, s₃.heap.get? b = some o → h'.get? b = some o := fun b o e => hs'.extBut b o (Nat.ne_of_lt (Heap.lt_size e)) (Heap.get?_push_of_some _ e)
  have eI : s₃.heap.get? I = some { cls := .type "list_iterator", data := .fields #[.ref l, .int 0 0] } := k₃.get (by rw [← hI]; exact Heap.get?_push_size _ rfl) (not_isT_cls rfl)
  have hIlt : @LT.lt Nat _ I s₃.heap.objs.size := natlt (Heap.lt_size eI)
  have elv : s₃.heap.PlainList l items := kp3.list pl
  have hllt : @LT.lt Nat _ l s₃.heap.objs.size := natlt (Heap.lt_size elv.choose_spec)
  obtain ⟨vc, hvc⟩ := hcc
  have hclt : @LT.lt Nat _ cc s₃.heap.objs.size := let ⟨o, e, _⟩ := kp3.cell hvc; natlt (Heap.lt_size e)
  have nl3 := kp3.nolimit nl
  have hslt : @LT.lt Nat _ cStatics s₃.heap.objs.size := let ⟨_, hn, _⟩ := nl3; hn.lt
  have hCI : @Ne Addr s₃.heap.objs.size I := fun e => absurd hIlt (by rw [e]; exact Nat.lt_irrefl _)
  have nlI : l ≠ I := fun e => by
    obtain ⟨o, e'⟩ := pl
    exact nI _ (e ▸ e')
  have ncI : cc ≠ I := fun e => by
    obtain ⟨o, e', _⟩ := hvc
    exact nI _ (e ▸ e')
  have nsI : cStatics ≠ I := fun e => by
    obtain ⟨mc, ⟨o, _, _, e', _⟩, _⟩ := nl
    exact nI _ (e ▸ e')
  generalize hG : ({ cls := .type "generator", data := .fields #[.int s₃.gens.size 0, .str "<genexpr>" (s₃.toks + 1), .str (env.qual ++ "<genexpr>") (s₃.toks + 1 + 1)] } : Obj) = G
  have keep₅ : ∀ b o, s₃.heap.get? b = some o → (h'.push G).get? b = some o := fun b o e => Heap.get?_push_of_some _ (keep' b o e)
  have W₀ : ∀ A' : Around, A'.handled = none → Walks prog w A' I [I, l, cc, cStatics] [I] items.size (fun i v => items[i]? = some v) (fun i h => h.IsListIter I l i ∧ h.IsList l items) := fun A' hA => (Walks.list hA I l nlI items).mono_fp (by
    intro b hb
    simp only [List.mem_cons, List.not_mem_nil, or_false] at hb ⊢
    rcases hb with rfl | rfl <;> simp)
  have haC : @Ne Addr h'.objs.size s₃.heap.objs.size := by rw [hsz]; exact Nat.succ_ne_self _
  have below : ∀ b ∈ [I, l, cc, cStatics], @LT.lt Nat _ b s₃.heap.objs.size := by
    intro b hb
    simp only [List.mem_cons, List.not_mem_nil, or_false] at hb
    rcases hb with rfl | rfl | rfl | rfl <;> assumption
  have haf : h'.objs.size ∉ [I, l, cc, cStatics] := fun hm => by have := below _ hm; rw [hsz] at this; omega
  have hCf : s₃.heap.objs.size ∉ [I, l, cc, cStatics] := fun hm => Nat.lt_irrefl _ (below _ hm)
  have hcs : cStatics ∈ [I, l, cc, cStatics] := by simp
  have hroom4 : A.in4.depth < recursionLimit := hroom
  have hW := WalksS.genexpQ (prog := prog) (w := w) (A := A.in4) hh h'.objs.size s₃.gens.size s₃.heap.objs.size [I, l, cc, cStatics] [I] (fun _ => true) items.size F haC haf (by intro b hb; rw [List.mem_singleton.mp hb]; simp) hroom4 hcs (fun e => hCf (e ▸ hcs)) (by intro hm; exact nsI (List.mem_singleton.mp hm))
  have z5 : At s₀ (h'.push G) { s₃ with gens := s₃.gens.push (.fresh (.compStart (.GeneratorExp elt [⟨.Name x px, iter, [], 0⟩] scope pos) 0 (.ref I) .none (genEnv scope cl s₃.heap.objs.size code builtinsNs env))), toks := s₃.toks + 1 + 1 + 1, heap := h'.push G } :=
    z₃.to ⟨⟨⟨_, _, _, rfl⟩, fun hb => hb.push rfl⟩, .of keep₅⟩
  refine hQ (h'.push G) _ h'.objs.size s₃.heap.objs.size I s₃.gens.size _ z5 (kp3.trans (.of keep₅)) ?_ ?_ nI hIlt (by rw [hsz]; exact Nat.lt_succ_self _) (by rw [hgn]; exact Nat.le_refl _) (by rw [Array.size_push]; exact Nat.lt_succ_self _) (by rw [← hI]; exact Nat.le_refl _) ?gk ?lv ⟨hW.in4_1, fun i s s' st hg hk => GenAt.move st hcs hg hk⟩ ?_ ⟨G, by rw [← hG]; exact Heap.get?_push_size _ rfl⟩
  case gk =>
    intro k hk
    show (s₃.gens.push _)[k]? = _
    rw [hgn] at *
    rw [Array.getElem?_push, if_neg (Nat.ne_of_lt hk)]
  case lv =>
    intro b hb
    simp only [List.mem_cons, List.not_mem_nil, or_false] at hb
    rcases hb with rfl | rfl | rfl | rfl | rfl | rfl
    · exact ⟨G, by rw [← hG]; exact Heap.get?_push_size _ rfl, hG ▸ not_isT_cls rfl⟩
    · obtain ⟨o, _, _, ho, hd, _⟩ := hn'
      exact ⟨o, Heap.get?_push_of_some _ ho, not_isT_dict hd⟩
    · exact ⟨_, keep₅ _ _ eI, not_isT_cls rfl⟩
    · obtain ⟨n, e⟩ := elv
      exact ⟨_, keep₅ _ _ e, not_isT_cls rfl⟩
    · obtain ⟨o, e, ed⟩ := kp3.cell hvc
      exact ⟨o, keep₅ _ _ e, not_isT_cell ed⟩
    · obtain ⟨mc, ⟨o, _, _, e, ed, _⟩, _⟩ := nl3
      exact ⟨o, keep₅ _ _ e, not_isT_dict ed⟩
  · intro o e
    obtain ⟨o', e'⟩ := kp3.live e
    have := natlt (Heap.lt_size e')
    rw [hsz] at this; omega
  · intro o e
    obtain ⟨o', e'⟩ := kp3.live e
    exact Nat.lt_irrefl _ (Heap.lt_size e')
  · refine GenAt.fresh (A := A.in4) (cenv := genEnv scope cl s₃.heap.objs.size code builtinsNs env) (m := fun y => if y = ".0" then some (.ref I) else none) hh W₀ (fun _ => true) F hx (by simp [genEnv, hkind]) hco hCf ?_ ?_ (Array.getElem?_push_size ..) ⟨⟨_, keep₅ _ _ eI, rfl, rfl⟩, ((Kp.of keep₅).list elv).isList⟩ (hn'.push _) (nl3.keeps keep₅)
    · refine ⟨fun A' E' i v s₂ m₂ hA hP hns hm hk => wpAny_tests_nil ⟨rfl, s₂.heap, s₂.toks, rfl, fun _ _ e => e⟩, fun A' E' i v s₂ m₂ hA hP _ hns hm hk => ?_⟩
      refine hF _ _ _ A' E' i v s₂ m₂ hA hP hns hm fun v' hv' => ?_
      obtain ⟨o, e, ed⟩ := (Kp.of keep₅).cell (kp3.cell hv')
      exact ⟨o, hk cc (by simp) (by intro hm; exact ncI (List.mem_singleton.mp hm)) o e, ed⟩
    · exact ⟨_, _, _, by rw [← hG]; exact Heap.get?_push_size _ rfl, rfl, rfl, rfl⟩
end
end Mine
end

section
open PySem PySem.Spec PySem.Calls PySem.W PyProof.Rows
set_option Elab.async false
namespace Mine
set_option maxRecDepth 100000
theorem passing_all (n : Nat) : passing (fun _ => true) n 0 = List.range n := by
  unfold passing
  rw [List.drop_zero, List.filter_eq_self.mpr fun _ _ => rfl]
section
variable {prog : Program} {w : World} {A : Around} {E : Value → Shared → Prop} {s : Shared} {Q : Value → Shared → Prop}
theorem sumprod_enterG {I K : Addr} {n : Nat} {V : Nat → Value → Value → Prop} {wr : List Addr} {St : Nat → Shared → Prop} (D : Duo prog w A.in1 I K n V wr St) (st : St 0 s)
    (p1 : ∀ (Q E : Value → Shared → Prop), Q (.ref I) s → wpAny (model prog w) A.in1 (pyIter (.ref I)) Q E s) (p2 : ∀ (Q E : Value → Shared → Prop), Q (.ref K) s → wpAny (model prog w) A.in1 (pyIter (.ref K)) Q E s)
    (hq : ∀ (s₁ : Shared) (t : Addr) (t0 : Tok), Sm s s₁ → (∀ b o, s.heap.get? b = some o → s₁.heap.get? b = some o) → s₁.heap.get? t = some (tri (Float64.zero false, Float64.zero false, Float64.zero false)) → t ∉ wr → St 0 s₁ →
      ∀ R : Result → Shared → Prop, (∀ v s', Q v s' → R (.ok (.ret v)) s') →
      codeAny (model prog w) A (.builtin "math.sumprod.loop" ⟨[.ref I, .ref K, .int 0 t0, .bool true, rawInt 0, .bool false, .bool true, .ref t, .bool false], []⟩) R s₁) :
    wpAny (model prog w) A (call (.builtin "math.sumprod") [.ref I, .ref K]) Q E s := by
  refine call_function_tree FF.kind_sumprod FF.plain_sumprod FF.entry_sumprod (FF.args_sumprod _ _) ?_
  refine wpAny_bind (wpAny_of_eq (a := [.ref I, .ref K]) rfl ?_)
  refine wpAny_bind (p1 _ _ (wpAny_bind (wpAny_holding (p2 _ _ ?_))))
  refine wpAny_bind (wpAny_mkInt (wpAny_bind (wpAny_newTuple ?_ (by show 3 ≤ sizeLine; decide))))
  have kp : ∀ b o, s.heap.get? b = some o → (s.heap.push (tri (Float64.zero false, Float64.zero false, Float64.zero false))).get? b = some o := fun b o e => Heap.get?_push_of_some _ e
  refine wpAny_pure ⟨plainId_quiet FF.plain_sumprod_loop _, hq { s with heap := s.heap.push (tri (Float64.zero false, Float64.zero false, Float64.zero false)), toks := s.toks + 1 } s.heap.objs.size s.toks ⟨⟨_, _, _, rfl⟩, id⟩ kp (Heap.get?_push_size _ rfl) ?_ (D.push 0 s _ _ st (Nat.le_succ _) kp) _ fun v s' q => q⟩
  exact fun hm => Nat.lt_irrefl _ (D.top _ _ st _ hm)
end
theorem WG.mono {prog : Program} {w : World} {A : Around} {I : Addr} {fp wr : List Addr} {g n : Nat} {P P' : Nat → Value → Prop} {St : Nat → Shared → Prop} (X : WG prog w A I fp wr g n P St) (h : ∀ i v, P i v → P' i v) : WG prog w A I fp wr g n P' St :=
  ⟨⟨X.W.sub, X.W.grefl, X.W.gtrans, X.W.frame, fun i s Q E hi st hQ => X.W.item i s Q E hi st fun v s' hp => hQ v s' (h i v hp), X.W.done, X.W.self⟩, X.move⟩
section
variable {w : World} {mg mb : Mp} {A : Around} {s s₀ : Shared} {h : Heap} {Q E : Value → Shared → Prop}
set_option maxHeartbeats 8000000 in
theorem covariance_c (z : At s₀ h s) (W : Wd (Mine.hd.heap_39 w.params) mg mb h) (hA : Rm 2 A) (hs0 : 0 < s.toks) (T : TB h 69) (B : BMo mg h) {l1 l2 : Addr} {is cs ds : List Int} {yb c : Int} (h1 : LI h l1 is) (h2 : LF h l2 cs) (hl1 : is.length = 8) (hl2 : cs.length = 8) (hl3 : ds.length = 8)
    (hi : ∀ x ∈ is, x = 0 ∨ x = 1) (hb : ∀ c ∈ cs, c.natAbs ≤ 2 ^ 41) (hyb : cs.sum = yb * 8) (hds : ∀ i, i < 8 → (8 * is.getD i 0 - is.sum) * (cs.getD i 0 - yb) = ds.getD i 0 * 8) (hc : ds.sum = c * 7)
    (hQ : ∀ h' s' x t, At s₀ h' s' → Kp h h' → Fl x c → t ≠ 0 → Q (.float x t) s') : wpAny (model PySem.Challenge.rw_tv0030_01.row.prog w) A (call (.ref 70) [.ref l1, .ref l2]) Q E s := by
  refine cDp (f := 70) [(Str.ofString "x", .ref l1), (Str.ofString "y", .ref l2)] z W (by rfl) hA (by rfl) (BindsTo.of_eq rfl) (by rfl) (by rfl) (by decide) ?_
  intro L h₁ s₁ q m cm A' hA' hm hcm I z₁ k₁ hup0
  have m1 := hm _ _ (.head _) rfl
  have m2 := hm _ _ (.tail _ (.head _)) rfl
  have W₁ := W.kp k₁
  have k0 := z.kp0
  obtain ⟨ysx, plx, prx⟩ := h1
  obtain ⟨ysy, ply, pry⟩ := h2
  have hsx : ysx.size = 8 := by rw [← Array.length_toList, ← prx.length, hl1]
  have hsy : ysy.size = 8 := by rw [← Array.length_toList, ← pry.length, hl2]
  have h1 : LI h l1 is := ⟨ysx, plx, prx⟩
  have h2 : LF h l2 cs := ⟨ysy, ply, pry⟩
  refine execs_up (wpAny_Assign_Name (cB z₁ W₁ (by rfl) boot_len (by decide) (wpAny_items_cons (nL z₁ I.ns m1 (wpAny_items_nil ?_)))))
  refine call_len_list (z₁.hp ▸ (k₁.list plx).isList) (by rw [hsx]; decide) ?_
  rw [hsx]
  refine sL (h := h₁) ⟨z₁.gr.trans (.tok _ _), z₁.hp⟩ k0 I fun h₂ s₂ z₂ I2 hs2 hup1 => ?_
  have W₂ := W.kp I2.keep
  refine execs_up (wpAny_If (wpAny_isTrue_Compare1 (cB z₂ W₂ (by rfl) boot_len (by decide) (wpAny_items_cons (nL z₂ I2.ns ((up_ne (by decide)).trans m2) (wpAny_items_nil ?_))))))
  refine call_len_list (z₂.hp ▸ (I2.keep.list ply).isList) (by rw [hsy]; decide) ?_
  rw [hsy]
  generalize hs3 : ({ s₂ with toks := s₂.toks + 1 + 1 } : Shared) = s₃
  have z₃ : At s₀ h₂ s₃ := hs3 ▸ ⟨z₂.gr.trans (.tok _ _), z₂.hp⟩
  clear hs3
  refine nL z₃ I2.ns up_eq (ne_int (wpAny_truthy_bool ?_))
  rw [if_neg (by decide)]
  refine wpAny_execs_nil fun hup2 => execs_up (wpAny_If (wpAny_isTrue_Compare1 (nL z₃ I2.ns up_eq (cInt z₃ fun t₄ s₄ z₄ => lt_int (wpAny_truthy_bool ?_)))))
  rw [if_neg (by decide)]
  refine wpAny_execs_nil fun hup3 => ?_
  -- xbar
  refine execs_up (wpAny_Assign_Name (wpAny_BinOp (cKB z₄ W₂ (by rfl) (wpAny_items_cons (nL z₄ I2.ns ((up_ne (by decide)).trans m1) (wpAny_items_nil ?_))))))
  refine call_fsum z₄ hA'.h ((I2.keep.li h1).ln fun i hx => by rcases hi i hx with rfl | rfl <;> decide) (M := 2 ^ 18) (fun c hc => ?_) (by rw [List.length_map, hl1]; decide) fun h₅ s₅ x t z₅ k₅ hx => ?_
  · obtain ⟨i, hx, rfl⟩ := List.mem_map.mp hc
    rcases hi i hx with rfl | rfl <;> decide
  have I5 := I2.kp k₅
  rw [sum_map_mul] at hx
  refine nL z₅ I5.ns up_eq (ndivi ⟨x, t, rfl, hx⟩ (by decide) (by decide) (c := is.sum * 2 ^ 15) (by rw [Int.mul_assoc]; rfl) ?_ fun xb tb k hxb => ?_)
  · have h3 := natAbs_sum_le (cs := is) (M := 1) fun x hx => by rcases hi x hx with rfl | rfl <;> decide
    rw [Int.natAbs_mul, show (2 ^ 15 : Int).natAbs = 2 ^ 15 from rfl]
    omega
  have z₆ : At s₀ h₅ { s₅ with toks := k } := ⟨z₅.gr.trans (.tok _ _), z₅.hp⟩
  refine sC z₆ k0 I5 (.tail _ (.head _)) (by rfl) fun h₇ s₇ z₇ I7 hs7 hup4 => ?_
  have W₇ := W.kp I7.keep
  refine execs_up (wpAny_Assign_Name (wpAny_BinOp (cKB z₇ W₇ (by rfl) (wpAny_items_cons (nL z₇ I7.ns ((up_ne (by decide)).trans m2) (wpAny_items_nil ?_))))))
  refine call_fsum z₇ hA'.h (I7.keep.lf h2).ln (M := 2 ^ 41) hb (by rw [hl2]; decide) fun h₈ s₈ y u z₈ k₈ hy => ?_
  have I8 := I7.kp k₈
  have hybb : yb.natAbs ≤ 2 ^ 41 := by
    have h3 := natAbs_sum_le hb
    rw [hyb, Int.natAbs_mul, hl2, show (8 : Int).natAbs = 8 from rfl] at h3
    omega
  refine nL z₈ I8.ns up_eq (ndivi ⟨y, u, rfl, hy⟩ (by decide) (by decide) (c := yb) hyb (by omega) fun yv tyv k' hyv => ?_)
  have z₉ : At s₀ h₈ { s₈ with toks := k' } := ⟨z₈.gr.trans (.tok _ _), z₈.hp⟩
  refine sC z₉ k0 I8 (.head _) (by rfl) fun h₉ s₉ z9 I9 hs9 hup5 => ?_
  have W₉ := W.kp I9.keep
  have ex : h₉.IsCell (L + 1) (some (.float xb tb)) := by
    have := I9.cell (Str.ofString "xbar", L + 1) (.tail _ (.head _))
    rw [show up (up cm (Str.ofString "xbar") (.float xb tb)) (Str.ofString "ybar") (.float yv tyv) (Str.ofString "xbar") = some (.float xb tb) from (up_ne (by decide)).trans up_eq] at this
    exact this
  have ey : h₉.IsCell (L + 2) (some (.float yv tyv)) := by
    have := I9.cell (Str.ofString "ybar", L + 2) (.head _)
    rw [show up (up cm (Str.ofString "xbar") (.float xb tb)) (Str.ofString "ybar") (.float yv tyv) (Str.ofString "ybar") = some (.float yv tyv) from up_eq] at this
    exact this
  refine execs_up (wpAny_Assign_Name (cKB z9 W₉ (by rfl) (wpAny_items_cons ?_)))
  refine gen_own (cc := L + 1) (F := fun i v => FltV v (is.getD i 0 * 2 ^ 18 - is.sum * 2 ^ 15)) z9 hA'.h hA'.room W₉.nl (I9.keep.list plx) (I9.keep.tb T) rfl (I9.keep.bmo B) W₉.g ⟨_, ex⟩ (fun Q' E' hq => nL z9 I9.ns ((up_ne (by decide)).trans m1) hq) ?hF1 ?hQ1
  case hF1 =>
    intro C code bi A'' E' i v s₂ m₂ hA2 hv hns hmx hk
    obtain ⟨a, ha, ta, rfl⟩ := Paired.get' prx i v (by simpa using hv)
    have hai : is.getD i 0 = a := by rw [List.getD_eq_getElem?_getD, ha]; rfl
    have ha01 := hi a (List.mem_of_getElem? ha)
    have hX := natAbs_sum_le (cs := is) (M := 1) fun x hx => by rcases hi x hx with rfl | rfl <;> decide
    refine wpAny_BinOp (nm_L hns hmx (nm_F (hk _ ex) (by rfl) (nsub (ca := a * 2 ^ 18) (.inr ⟨a, ta, rfl, by rcases ha01 with rfl | rfl <;> decide, rfl⟩) ⟨xb, tb, rfl, hxb⟩ ?_ fun x t k hx => ⟨⟨x, t, rfl, by rw [hai]; exact hx⟩, s₂.heap, k, rfl, fun _ _ e => e⟩)))
    omega
  case hQ1 =>
    intro h10 s10 a1 C1 I1 g1 St1 z10 kp10 na1 nC1 nI1 hIC1 hCa1 hg1 hg1' hI1 hgk1 hlv1 wg1 st1 live1
    have I10 := I9.kp kp10
    have W10 := W.kp I10.keep
    have ey10 := kp10.cell ey
    refine wpAny_items_cons ?_
    refine gen_own (cc := L + 2) (F := fun i v => FltV v (cs.getD i 0 - yb)) z10 hA'.h hA'.room W10.nl (I10.keep.list ply) (I10.keep.tb T) rfl (I10.keep.bmo B) W10.g ⟨_, ey10⟩ (fun Q' E' hq => nL z10 I10.ns (((up_ne (by decide)).trans m2)) hq) ?hF2 ?hQ2
    case hF2 =>
      intro C code bi A'' E' i v s₂ m₂ hA2 hv hns hmx hk
      obtain ⟨a, ha, fa⟩ := Paired.get' pry i v (by simpa using hv)
      have hai : cs.getD i 0 = a := by rw [List.getD_eq_getElem?_getD, ha]; rfl
      have hab := hb a (List.mem_of_getElem? ha)
      refine wpAny_BinOp (nm_L hns hmx (nm_F (hk _ ey10) (by rfl) (nsub (ca := a) fa.num ⟨yv, tyv, rfl, hyv⟩ (by omega) fun x t k hx => ⟨⟨x, t, rfl, by rw [hai]; exact hx⟩, s₂.heap, k, rfl, fun _ _ e => e⟩)))
    case hQ2 =>
      intro h11 s11 a2 C2 I2' g2 St2 z11 kp11 na2 nC2 nI2 hIC2 hCa2 hg2 hg2' hI2 hgk2 hlv2 wg2 st2 live2
      have z10hp := z10.hp
      have z11hp := z11.hp
      subst z10hp
      subst z11hp
      have st1' : St1 0 s11 := wg1.move 0 _ _ st1 (hgk2 g1 hg1') fun b hb' o e => by
        obtain ⟨o', e', ho'⟩ := hlv1 b hb'
        rw [e] at e'
        cases e'
        exact kp11.get e ho'
      have hlt1 : ∀ b ∈ [a1, C1, I1, l1, L + 1, cStatics], @LT.lt Nat _ b s10.heap.objs.size := fun b hb' => by
        obtain ⟨o, e, _⟩ := hlv1 b hb'
        exact natlt (Heap.lt_size e)
      rw [hsx, passing_all] at wg1
      rw [hsy, passing_all] at wg2
      have er : ∀ i j : Nat, (List.range 8)[i]? = some j → j = i := fun i j e => by
        obtain ⟨h, e'⟩ := List.getElem?_eq_some_iff.mp e
        rw [List.getElem_range] at e'
        exact e'.symm
      have wg1' := wg1.mono (P' := fun i v => FltV v (is.getD i 0 * 2 ^ 18 - is.sum * 2 ^ 15)) fun i v ⟨j, hj, hF⟩ => er i j hj ▸ hF
      have wg2' := wg2.mono (P' := fun i v => NumV v (cs.getD i 0 - yb)) fun i v ⟨j, hj, hF⟩ => er i j hj ▸ hF.num
      have lC1 : @LT.lt Nat _ C1 s10.heap.objs.size := hlt1 _ (by simp)
      have lI1 : @LT.lt Nat _ I1 s10.heap.objs.size := hlt1 _ (by simp)
      have l9 : ∀ b o, h₉.get? b = some o → b ≠ C1 ∧ b ≠ I1 ∧ b ≠ C2 ∧ b ≠ I2' := fun b o e => by
        obtain ⟨o', e'⟩ := kp10.live e
        refine ⟨?_, ?_, ?_, ?_⟩ <;> rintro rfl
        · exact nC1 _ e
        · exact nI1 _ e
        · exact nC2 _ e'
        · exact nI2 _ e'
      have ll2 : l2 ≠ C1 ∧ l2 ≠ I1 := let ⟨n, e⟩ := I9.keep.list ply; ⟨(l9 _ _ e).1, (l9 _ _ e).2.1⟩
      have lcc : (L + 2 : Addr) ≠ C1 ∧ (L + 2 : Addr) ≠ I1 := let ⟨o, e, _⟩ := ey; ⟨(l9 _ _ e).1, (l9 _ _ e).2.1⟩
      have lst : cStatics ≠ C1 ∧ cStatics ≠ I1 := let ⟨mc, ⟨o, _, _, e, _⟩, _⟩ := W₉.nl; ⟨(l9 _ _ e).1, (l9 _ _ e).2.1⟩
      have gt : ∀ {a b : Nat}, a < b → @Ne Addr a b := fun h e => absurd h (by rw [show (_ : Nat) = _ from e]; exact Nat.lt_irrefl _)
      have D := duo_of wg1' wg2' (by
        intro b hb' hm
        simp only [List.mem_cons, List.not_mem_nil, or_false] at hb' hm
        have e1 : @LT.lt Nat _ C1 a2 := Nat.lt_trans (Nat.lt_of_lt_of_le lC1 hI2) (Nat.lt_trans hIC2 hCa2)
        have e2 : @LT.lt Nat _ C1 C2 := Nat.lt_trans (Nat.lt_of_lt_of_le lC1 hI2) hIC2
        have e3 : @LT.lt Nat _ C1 I2' := Nat.lt_of_lt_of_le lC1 hI2
        rcases hb' with rfl | rfl
        · rcases hm with e | e | e | e | e | e
          · exact gt e1 e
          · exact gt e2 e
          · exact gt e3 e
          · exact ll2.1 e.symm
          · exact lcc.1 e.symm
          · exact lst.1 e.symm
        · rcases hm with e | e | e | e | e | e
          · exact gt (Nat.lt_trans hIC1 e1) e
          · exact gt (Nat.lt_trans hIC1 e2) e
          · exact gt (Nat.lt_trans hIC1 e3) e
          · exact ll2.2 e.symm
          · exact lcc.2 e.symm
          · exact lst.2 e.symm) (by
        intro b hb' hm
        have hlt := hlt1 b hm
        simp only [List.mem_cons, List.not_mem_nil, or_false] at hb'
        rcases hb' with rfl | rfl
        · exact Nat.lt_irrefl _ (Nat.lt_trans hlt (Nat.lt_of_le_of_lt hI2 hIC2))
        · exact Nat.lt_irrefl _ (Nat.lt_of_lt_of_le hlt hI2)) (by intro e; omega) a2 (by
        intro hm
        simp only [List.mem_cons, List.not_mem_nil, or_false] at hm
        have e1 : @LT.lt Nat _ C1 a2 := Nat.lt_trans (Nat.lt_of_lt_of_le lC1 hI2) (Nat.lt_trans hIC2 hCa2)
        rcases hm with e | e
        · exact gt e1 e.symm
        · exact gt (Nat.lt_trans hIC1 e1) e.symm) (by
        intro hm
        simp only [List.mem_cons, List.not_mem_nil, or_false] at hm
        rcases hm with e | e
        · exact gt hCa2 e.symm
        · exact gt (Nat.lt_trans hIC2 hCa2) e.symm) (by
        intro b hm
        have e1 : @LT.lt Nat _ C1 a2 := Nat.lt_trans (Nat.lt_of_lt_of_le lC1 hI2) (Nat.lt_trans hIC2 hCa2)
        simp only [List.cons_append, List.nil_append, List.mem_cons, List.not_mem_nil, or_false] at hm
        rcases hm with rfl | rfl | rfl | rfl
        · exact e1
        · exact Nat.lt_trans hIC1 e1
        · exact hCa2
        · exact Nat.lt_trans hIC2 hCa2)
      have hX := natAbs_sum_le (cs := is) (M := 1) fun x hx => by rcases hi x hx with rfl | rfl <;> decide
      have hdb : ∀ d ∈ ds, d.natAbs ≤ 2 ^ 43 := by
        intro d hd
        obtain ⟨j, hj, rfl⟩ := List.getElem_of_mem hd
        have h8 := hds j (by omega)
        have e1 : ds.getD j 0 = ds[j] := by rw [List.getD_eq_getElem?_getD, List.getElem?_eq_getElem hj]; rfl
        have e2 : (cs.getD j 0).natAbs ≤ 2 ^ 41 := by
          rw [List.getD_eq_getElem?_getD, List.getElem?_eq_getElem (by omega)]
          exact hb _ (List.getElem_mem _)
        have e3 : is.getD j 0 = 0 ∨ is.getD j 0 = 1 := by
          rw [List.getD_eq_getElem?_getD, List.getElem?_eq_getElem (by omega)]
          exact hi _ (List.getElem_mem _)
        rw [e1] at h8
        have h9 := congrArg Int.natAbs h8
        rw [Int.natAbs_mul, Int.natAbs_mul, show (8 : Int).natAbs = 8 from rfl] at h9
        have e4 : (8 * is.getD j 0 - is.sum).natAbs ≤ 16 := by rcases e3 with e | e <;> rw [e] <;> omega
        have e5 : (cs.getD j 0 - yb).natAbs ≤ 2 ^ 42 := by omega
        have e6 := Nat.mul_le_mul e4 e5
        omega
      have D' : Duo PySem.Challenge.rw_tv0030_01.row.prog w A'.in1 a1 a2 8 (fun i a b => FltV a (is.getD i 0 * 2 ^ 18 - is.sum * 2 ^ 15) ∧ NumV b (cs.getD i 0 - yb)) _ _ := D
      refine wpAny_items_nil (sumprod_enterG D' ⟨st1', st2, live2⟩ (fun Q E q => wg1.W.self 0 _ _ _ st1' q) (fun Q E q => wg2.W.self 0 _ _ _ st2 q) fun s12 t t0 sm12 hk12 et htw st12 R hR => ?_)
      refine sumprod_loop_f (fun i => is.getD i 0 * 2 ^ 18 - is.sum * 2 ^ 15) (fun i => cs.getD i 0 - yb) (fun i => ds.getD i 0) D' (fun i hi8 => ?_) (fun i hi8 => getD_bound hdb (by rw [hl3]; decide) i (by omega)) (fun i _ => preSum_bound hdb (by rw [hl3]; decide) i) 8 0 s12 t _ t0 true false rfl (Nat.zero_le _) st12 et htw T3.zero (.inr (by decide)) fun s' x t' mv hx => hR _ _ ?_
      · have h8 := hds i hi8
        have e : (is.getD i 0 * 2 ^ 18 - is.sum * 2 ^ 15) = (8 * is.getD i 0 - is.sum) * 2 ^ 15 := by omega
        rw [e, Int.mul_right_comm, h8, Int.mul_assoc]
        rfl
      · rw [preSum_list, List.take_of_length_le (by omega)] at hx
        have kf : Kp h₉ s'.heap := fun b o e => by
          have hbw : b ∉ [C1, I1] ++ [C2, I2'] := by
            have := l9 b o e
            simp only [List.cons_append, List.nil_append, List.mem_cons, List.not_mem_nil, or_false, not_or]
            exact this
          rcases (kp10.trans kp11) b o e with e1 | ⟨ps, more, rfl, e1⟩
          · exact .inl (mv.2 b _ hbw (hk12 _ _ e1))
          · exact .inr ⟨ps, more, rfl, mv.2 b _ hbw (hk12 _ _ e1)⟩
        have I12 := I9.kp kf
        have z12 := z11.in (sm12.trans mv.1) rfl k0 I12
        refine sL z12 k0 I12 fun h13 s13 z13 I13 hs13 hup6 => ?_
        refine wpAny_execs_cons (wpAny_Return_some (BinOpP (nL z13 I13.ns up_eq (wpAny_BinOp (nL z13 I13.ns ((up_ne (by decide)).trans up_eq) (cInt z13 fun t14 s14 z14 => subI z14 fun t15 s15 z15 hup7 => ?_))))))
        have hcb : c.natAbs < 2 ^ 53 := by
          have h3 := natAbs_sum_le hdb
          rw [hc, Int.natAbs_mul, hl3, show (7 : Int).natAbs = 7 from rfl] at h3
          omega
        refine ndiviP (by omega) ⟨x, t', rfl, hx⟩ (i := 8 - 1) (by decide) (by decide) (c := c) hc hcb fun yr u k hu hy => ?_
        exact hQ _ _ yr u ⟨z15.gr.trans (.tok _ _), z15.hp⟩ I13.keep hy hu
end
end Mine
end

section
open PySem PySem.Spec PySem.Calls PySem.W PyProof.Rows
set_option Elab.async false
namespace Mine
set_option maxRecDepth 100000
noncomputable def lawFd (p : Params) : FuncData := match (Mine.hd.heap_39 p).lookup 165 with
  | some o => (match o.data with | .func fd => fd | _ => default)
  | none => default
noncomputable def lawBody (p : Params) : List Stmt := match (lawFd p).body with | .stmts b => b | _ => []
noncomputable def lawScope (p : Params) : Scope := (lawFd p).scope
noncomputable abbrev lawEnv (p : Params) (L : Addr) (q : Str) : Env := mkE (lawScope p) L (cellsFrom (L + 1) (lawScope p).names []) q (some 165) (.ref 164)
/-- take all that stands now, but the frame, as the base -/
theorem Inn.rebase {h₀ h : Heap} {L : Addr} {oc : List (Str × Addr)} {m cm : Mp} {led : List (Addr × Obj)} (x : Inn h₀ L oc m cm led h) :
    ∃ h₁, Kp h₀ h₁ ∧ Inn h₁ L oc m cm [] h ∧ Kp h₁ h ∧ ∀ b o, h.get? b = some o → b ≠ L → (∀ q ∈ oc, q.2 ≠ b) → h₁.get? b = some o := by
  have hin : ∀ b o, h.get? b = some o → b ≠ L → (∀ q ∈ oc, q.2 ≠ b) → (hideAll h (L :: oc.map (·.2))).get? b = some o := fun b o e h1 h2 => hideAll_get _ e (by
    intro hm
    rcases List.mem_cons.mp hm with e' | hm
    · exact h1 e'
    · obtain ⟨q, hq, e'⟩ := List.mem_map.mp hm
      exact h2 q hq e')
  have hout : ∀ b o, (hideAll h (L :: oc.map (·.2))).get? b = some o → h.get? b = some o := fun b o e => of_hideAll _ e
  refine ⟨hideAll h (L :: oc.map (·.2)), fun b o e => ?_, ⟨x.ns, .of hout, fun o e => ?_, x.cell, fun q hq => ⟨(x.cnew q hq).1, fun o e => ?_⟩, x.apart, x.names, (fun _ hp => nomatch hp), .nil⟩, .of hout, hin⟩
  · have n1 : b ≠ L := by rintro rfl; exact x.above o e
    have n2 : ∀ q ∈ oc, q.2 ≠ b := by rintro q hq rfl; exact (x.cnew q hq).2 o e
    rcases x.keep b o e with e1 | ⟨ps, more, rfl, e1⟩
    · exact .inl (hin _ _ e1 n1 n2)
    · exact .inr ⟨ps, more, rfl, hin _ _ e1 n1 n2⟩
  · rw [hideAll_none _ (List.mem_cons_self ..)] at e
    cases e
  · rw [hideAll_none _ (List.mem_cons_of_mem _ (List.mem_map.mpr ⟨q, hq, rfl⟩))] at e
    cases e
/-- a list that was new when the frame stood is of the new base -/
theorem Inn.base {h₀ h : Heap} {L : Addr} {oc : List (Str × Addr)} {m cm : Mp} {led : List (Addr × Obj)} (x : Inn h₀ L oc m cm led h) {D : Addr} (hD : ∀ o, h.get? D ≠ some o) : D ≠ L ∧ ∀ q ∈ oc, q.2 ≠ D := by
  refine ⟨?_, ?_⟩
  · rintro rfl
    obtain ⟨o, _, _, ho, _⟩ := x.ns
    exact hD _ ho
  · rintro q hq rfl
    obtain ⟨o, ho, _⟩ := x.cell q hq
    exact hD _ ho
end Mine
end

section
open PySem PySem.Spec PySem.Calls PySem.W PyProof.Rows
set_option Elab.async false
namespace Mine
set_option maxRecDepth 100000
def lawOc (L : Addr) : List (Str × Addr) := [(Str.ofString "halves", L + 14), (Str.ofString "column", L + 13), (Str.ofString "listing", L + 12), (Str.ofString "shrunk", L + 11), (Str.ofString "heights", L + 10), (Str.ofString "worth", L + 9), (Str.ofString "first", L + 8), (Str.ofString "shown", L + 7),
  (Str.ofString "rows", L + 6), (Str.ofString "kept", L + 5), (Str.ofString "whole", L + 4), (Str.ofString "days", L + 3), (Str.ofString "weights", L + 2), (Str.ofString "rights", L + 1)]
theorem lawOc_eq (p : Params) (L : Addr) : cellsFrom (L + 1) (lawScope p).names [] = lawOc L := by rfl
section
variable {w : World} {mg mb : Mp} {A : Around} {s s₀ : Shared} {h h₀ : Heap} {Q : Flow → Shared → Prop} {E : Value → Shared → Prop} {L : Addr} {q : Str} {m cm : Mp}
/-- cells, digits -/
theorem law_0 (z : At s₀ h s) (k0 : Kp s₀.heap h₀) (W : Wd (Mine.hd.heap_39 w.params) mg mb h₀) (hA : Rm 1 A) (I : Inn h₀ L (lawOc L) m cm [] h) {l : Addr} {xs : List Int} (m1 : m (Str.ofString "script") = some (.ref l)) (hl : LI h₀ l xs) (hlen : xs.length ≤ sizeLine)
    (hrest : ∀ s' h' h₁ m' D is, At s₀ h' s' → Kp h₀ h₁ → Inn h₁ L (lawOc L) m' cm [] h' → m' (Str.ofString "cells") = some (.ref D) → LI h₁ D is → is.length = 10 → s.toks ≤ s'.toks →
      wpAny (model PySem.Challenge.rw_tv0030_01.row.prog w) A (execs ((lawBody w.params).drop 1) (lawEnv w.params L q)) Q E s') :
    wpAny (model PySem.Challenge.rw_tv0030_01.row.prog w) A (execs ((lawBody w.params).drop 0) (lawEnv w.params L q)) Q E s := by
  have Wh := W.kp I.keep
  refine execs_up (wpAny_Assign_Name (cF z Wh (by rfl) (by rfl) (wpAny_items_cons (nL z I.ns m1 (wpAny_items_nil ⟨_, z, .refl _, ?_⟩)))))
  refine cells_c z Wh hA (I.keep.li hl) hlen fun h₂ s₂ D is z₂ k₂ nD li hl10 => ?_
  have I2 := I.kp k₂
  obtain ⟨h₁, k1, I3, k3, hb⟩ := I2.rebase
  obtain ⟨n1, n2⟩ := I.base nD
  have li1 : LI h₁ D is := by
    obtain ⟨ys, ⟨n, e⟩, pr⟩ := li
    exact ⟨ys, ⟨n, hb _ _ e n1 n2⟩, pr⟩
  refine sL z₂ (k0.trans k1) I3 fun h₄ s₄ z₄ I4 hs4 => ?_
  exact fun hup => hrest s₄ h₄ h₁ _ D is z₄ k1 I4 up_eq li1 hl10 hup
theorem law_1 (z : At s₀ h s) (k0 : Kp s₀.heap h₀) (W : Wd (Mine.hd.heap_39 w.params) mg mb h₀) (hA : Rm 1 A) (I : Inn h₀ L (lawOc L) m cm [] h) {l : Addr} {xs : List Int} (m1 : m (Str.ofString "cells") = some (.ref l)) (hl : LI h₀ l xs) (hlen : xs.length = 10)
    (hrest : ∀ s' h' h₁ m' D, At s₀ h' s' → Kp h₀ h₁ → Inn h₁ L (lawOc L) m' cm [] h' → m' (Str.ofString "cells") = some (.ref l) → m' (Str.ofString "digits") = some (.ref D) → LI h₁ D (digsF (xs.getD 8 0) bases) → 0 < s'.toks →
      wpAny (model PySem.Challenge.rw_tv0030_01.row.prog w) A (execs ((lawBody w.params).drop 2) (lawEnv w.params L q)) Q E s') :
    wpAny (model PySem.Challenge.rw_tv0030_01.row.prog w) A (execs ((lawBody w.params).drop 1) (lawEnv w.params L q)) Q E s := by
  have Wh := W.kp I.keep
  refine wpAny_execs_cons (wpAny_Assign_Name (cF z Wh (by rfl) (by rfl) (wpAny_items_cons (sLI (nL z I.ns m1 (wpAny_Constant_int ?_))))))
  have z₁ : At s₀ h { s with toks := s.toks + 1 } := ⟨z.gr.trans (.tok _ _), z.hp⟩
  refine ⟨_, _, l, xs, 8, _, z₁, rfl, rfl, I.keep.li hl, by decide, by omega, by omega, fun t₂ => wpAny_items_nil ⟨_, z₁, .refl _, ?_⟩⟩
  refine wpAny_up (digits_c z₁ Wh hA fun h₂ s₂ D z₂ k₂ nD li hup2 => ?_)
  have I2 := I.kp k₂
  obtain ⟨h₁, k1, I3, k3, hb⟩ := I2.rebase
  obtain ⟨n1, n2⟩ := I.base nD
  have li1 : LI h₁ D (digsF (xs.getD 8 0) bases) := by
    obtain ⟨ys, ⟨n, e⟩, pr⟩ := li
    exact ⟨ys, ⟨n, hb _ _ e n1 n2⟩, pr⟩
  refine wpAny_up (sL z₂ (k0.trans k1) I3 fun h₄ s₄ z₄ I4 hs4 hup4 => ?_)
  have hpos : 0 < s₄.toks := by
    have h2 : s.toks + 1 ≤ s₂.toks := hup2
    omega
  exact hrest s₄ h₄ h₁ _ D z₄ k1 I4 ((up_ne (by decide)).trans m1) up_eq li1 hpos
end
end Mine
end

section
open PySem PySem.Spec PySem.Calls PySem.W PyProof.Rows
set_option Elab.async false
namespace Mine
set_option maxRecDepth 100000
section
variable {prog : Program} {w : World} {A : Around} {E : Value → Shared → Prop} {s : Shared} {env : Env} {Q : Value → Shared → Prop}
theorem popE {o e : Expr} {apos pos : Pos} (q : wpAny (model prog w) A (eval o env) (fun ov s₁ => ∃ l ys n, ov = .ref l ∧ s₁.heap.get? l = some (lobj ys n) ∧
      wpAny (model prog w) A (eval e env) (fun iv s₂ => ∃ i : Nat, ∃ u y ys n, iv = .int i u ∧ s₂.heap.get? l = some (lobj ys n) ∧ ys.size ≤ 100 ∧ ys[i]? = some y ∧ ∀ h' n', h'.get? l = some (lobj (ys.eraseIdxIfInBounds i) n') → Heap.SameBut l s₂.heap h' → Q y { s₂ with heap := h' }) E s₁) E s)
    (hbase : attributeBase o "pop" env (eval o env) = eval o env := by rfl)
    (hfew : ((backTo pos (starEach [e] env)).all (fun x => !x.1) && (backToKw pos (keywordEach [] env)).all (fun x => x.1.isSome)
      && decide (([e] : List Expr).length + ([] : List Keyword).length + (if ([] : List Keyword).isEmpty then 0 else 1) < 30)) = true := by rfl)
    (hline : (apos.endLine == pos.line) = true := by rfl) (htrees : backTo pos (starEach [e] env) = [(false, eval e env)] := by rfl) :
    wpAny (model prog w) A (eval (.Call (.Attribute o "pop" apos) [e] [] pos) env) Q E s := by
  refine wpAny_Call_method (T := "list") (id := "list.pop") hbase hfew hline F.plainAttrs_list F.slot_list_pop F.type_list_pop (wpAny_mono q (fun ov s₁ h₁ => ?_) fun _ _ x => x)
  obtain ⟨l, ys, n, rfl, el, h₁⟩ := h₁
  refine ⟨⟨_, el, rfl⟩, fun a ha => by cases ha; exact ⟨_, el, rfl⟩, ?_⟩
  rw [htrees]
  refine PySem.P.pop_at_list (wpAny_mono h₁ (fun iv s₂ h₂ => ?_) fun _ _ x => x)
  obtain ⟨i, u, y, ys, n, rfl, el, hsz, hy, q⟩ := h₂
  have hi : i < ys.size := by
    rw [Array.getElem?_eq_some_iff] at hy
    exact hy.1
  refine ⟨ys, n, i, u, i, y, Nat.le_trans hsz (by decide), rfl, el, ?_, ?_, hy, ?_⟩
  · unfold Builtin.List.listFitsIndex
    simp
    omega
  · unfold seqIndex?
    simp only [if_neg (show ¬ (i : Int) < 0 by omega)]
    rw [if_pos (by simp; omega)]
    rfl
  · obtain ⟨n', hd'⟩ := Obj.data_mapSeq (show (lobj ys n).data = .seq ys n from rfl) (fun xs => xs.eraseIdxIfInBounds i)
    refine q _ n' ?_ (Heap.SameBut.update ..)
    rw [Heap.get?_update_self _ el (Obj.isFreed_of_seq hd')]
    have : (Obj.mapSeq (fun xs => xs.eraseIdxIfInBounds i) (lobj ys n)) = { cls := .type "list", data := (Obj.mapSeq (fun xs => xs.eraseIdxIfInBounds i) (lobj ys n)).data } := rfl
    rw [this, hd']
end
end Mine
end

section
open PySem PySem.Spec PySem.Calls PySem.W PyProof.Rows
set_option Elab.async false
namespace Mine
set_option maxRecDepth 100000
theorem digs_ex (v : Int) : ∃ d0 d1 d2 d3 d4 d5 d6 : Nat, d0 < 12 ∧ d1 < 11 ∧ d2 < 10 ∧ d3 < 6 ∧ d4 < 6 ∧ d5 < 6 ∧ d6 < 3 ∧ digsF v bases = [(d0 : Int), (d1 : Int), (d2 : Int), (d3 : Int), (d4 : Int), (d5 : Int), (d6 : Int)] := by
  have key : ∀ (v b : Int), 0 < b → ∃ d : Nat, (d : Int) < b ∧ v.fmod b = d := fun v b hb => by
    have h1 := Int.fmod_nonneg_of_pos v (b := b) hb
    have h2 := Int.fmod_lt_of_pos v (b := b) hb
    exact ⟨(v.fmod b).toNat, by omega, by omega⟩
  unfold bases
  simp only [digsF]
  generalize v.fdiv 12 = v1
  generalize v1.fdiv 11 = v2
  generalize v2.fdiv 10 = v3
  generalize v3.fdiv 6 = v4
  generalize v4.fdiv 6 = v5
  generalize v5.fdiv 6 = v6
  obtain ⟨a0, x0, e0⟩ := key v 12 (by decide)
  obtain ⟨a1, x1, e1⟩ := key v1 11 (by decide)
  obtain ⟨a2, x2, e2⟩ := key v2 10 (by decide)
  obtain ⟨a3, x3, e3⟩ := key v3 6 (by decide)
  obtain ⟨a4, x4, e4⟩ := key v4 6 (by decide)
  obtain ⟨a5, x5, e5⟩ := key v5 6 (by decide)
  obtain ⟨a6, x6, e6⟩ := key v6 3 (by decide)
  exact ⟨a0, a1, a2, a3, a4, a5, a6, by omega, by omega, by omega, by omega, by omega, by omega, by omega, by rw [e0, e1, e2, e3, e4, e5, e6]⟩
theorem Paired.erase {α β : Type} {F : α → β → Prop} : ∀ (n : Nat) {l₁ : List α} {l₂ : List β}, Paired F l₁ l₂ → Paired F (l₁.eraseIdx n) (l₂.eraseIdx n)
  | _, _, _, .nil => .nil
  | 0, _, _, .cons _ t => t
  | n + 1, _, _, .cons h t => .cons h (Paired.erase n t)
theorem map_er {α β : Type} (f : α → β) : ∀ (l : List α) (n : Nat), (l.map f).eraseIdx n = (l.eraseIdx n).map f
  | [], _ => rfl
  | _ :: _, 0 => rfl
  | a :: l, n + 1 => congrArg (f a :: ·) (map_er f l n)
theorem arr_erase {ys : Array Value} {i : Nat} (h : i < ys.size) : (ys.eraseIdxIfInBounds i).toList = ys.toList.eraseIdx i := by
  unfold Array.eraseIdxIfInBounds
  rw [dif_pos h, Array.toList_eraseIdx]
def KpBut (L : Addr) (oc : List (Str × Addr)) (h h' : Heap) : Prop := ∀ b o, h.get? b = some o → b ≠ L → (∀ q ∈ oc, q.2 ≠ b) → h'.get? b = some o
def OffF (L : Addr) (oc : List (Str × Addr)) (D : Addr) : Prop := D ≠ L ∧ ∀ q ∈ oc, q.2 ≠ D
theorem KpBut.li {L : Addr} {oc : List (Str × Addr)} {h h' : Heap} (k : KpBut L oc h h') {D : Addr} {is : List Int} (n : OffF L oc D) (x : LI h D is) : LI h' D is := by
  obtain ⟨ys, ⟨n', e⟩, pr⟩ := x
  exact ⟨ys, ⟨n', k _ _ e n.1 n.2⟩, pr⟩
theorem KpBut.lp {L : Addr} {oc : List (Str × Addr)} {h h' : Heap} (k : KpBut L oc h h') {D : Addr} {is : List Int} (n : OffF L oc D) (x : LP h D is) : LP h' D is := by
  obtain ⟨ys, ⟨n', e⟩, pr⟩ := x
  exact ⟨ys, ⟨n', k _ _ e n.1 n.2⟩, pr⟩
theorem KpBut.lf {L : Addr} {oc : List (Str × Addr)} {h h' : Heap} (k : KpBut L oc h h') {D : Addr} {is : List Int} (n : OffF L oc D) (x : LF h D is) : LF h' D is := by
  obtain ⟨ys, ⟨n', e⟩, pr⟩ := x
  exact ⟨ys, ⟨n', k _ _ e n.1 n.2⟩, pr⟩
section
variable {M : Model} {A : Around} {s s₀ : Shared} {h h₀ : Heap} {Q : Unit → Shared → Prop} {E : Value → Shared → Prop} {m cm : Mp} {env : Env} {oc : List (Str × Addr)} {led : List (Addr × Obj)} {x : Str} {c : Addr} {v : Value}
/-- store in an own cell; what stands now is the new base -/
theorem finC (z : At s₀ h s) (k0 : Kp s₀.heap h₀) (I : Inn h₀ env.locals oc m cm led h) (hm : (x, c) ∈ oc) (hc : env.cells.lookup x = some c)
    (q : ∀ h' s' h₁, At s₀ h' s' → Kp h₀ h₁ → Kp s₀.heap h₁ → Inn h₁ env.locals oc m (up cm x v) [] h' → KpBut env.locals oc h h₁ → Q () s')
    (hk : env.scope.kind = .function := by rfl) (hx : env.kindOf x = some .cell := by rfl) : wpAny M A (storeName env x v) Q E s := by
  obtain ⟨h₁, k1, I3, k3, hb⟩ := I.rebase
  exact sC z (k0.trans k1) I3 hm hc (fun h₄ s₄ z₄ I4 hs4 => q h₄ s₄ h₁ z₄ k1 (k0.trans k1) I4 hb) hk hx
theorem finL (z : At s₀ h s) (k0 : Kp s₀.heap h₀) (I : Inn h₀ env.locals oc m cm led h)
    (q : ∀ h' s' h₁, At s₀ h' s' → Kp h₀ h₁ → Kp s₀.heap h₁ → Inn h₁ env.locals oc (up m x v) cm [] h' → KpBut env.locals oc h h₁ → Q () s')
    (hk : env.scope.kind = .function := by rfl) (hx : env.kindOf x = some .local := by rfl) : wpAny M A (storeName env x v) Q E s := by
  obtain ⟨h₁, k1, I3, k3, hb⟩ := I.rebase
  exact sL z (k0.trans k1) I3 (fun h₄ s₄ z₄ I4 hs4 => q h₄ s₄ h₁ z₄ k1 (k0.trans k1) I4 hb) hk hx
end
section
variable {prog : Program} {w : World} {A : Around} {E : Value → Shared → Prop} {s s₀ : Shared} {h : Heap} {env : Env} {Q : Value → Shared → Prop} {K : Frag} {mg mb : Mp}
theorem listRange {k n : Nat} {p p' p'' pos pos' : Pos} {b : Int} (z : At s₀ h s) (hh : A.handled = none) (W : Wd K mg mb h) (hn : nsIn K mainGlobals "range" = some none) (hn' : nsIn K mainGlobals "list" = some none) (hb : b = n) (hb2 : n ≤ 2 ^ 24)
    (hQ : ∀ h' s' D ys zz, At s₀ h' s' → Kp h h' → (∀ o, h.get? D ≠ some o) → h'.get? D = some (lobj ys zz) → Paired (fun i y => IntV y i) ((List.range n).map Int.ofNat) ys.toList → Q (.ref D) s')
    (he : starEach ([.Call (.Name "range" p) [.Constant (Const.int b) k p'] [] pos] : List Expr) env = (false, eval (Expr.Call (.Name "range" p) [.Constant (Const.int b) k p'] [] pos) env) :: starEach [] env := by rfl)
    (hg : env.globals = mainGlobals := by rfl) (hbn : env.builtins = builtinsNs := by rfl) (hk : env.scope.kind = .function := by rfl) (hkx : env.kindOf "range" = some .globalImplicit := by rfl) (hkx' : env.kindOf "list" = some .globalImplicit := by rfl) :
    wpAny (model prog w) A (eval (.Call (.Name "list" p'') [.Call (.Name "range" p) [.Constant (.int b) k p'] [] pos] [] pos') env) Q E s := by
  refine cT z W hn' boot_list (by decide) (wpAny_items_cons (cT z W hn boot_range (by decide) (wpAny_items_cons (cInt z fun t₁ s₁ z₁ => wpAny_items_nil (call_range_1 (wpAny_items_nil ?_)))) rfl rfl hg hbn hk hkx)) he rfl hg hbn hk hkx'
  have hz := z₁.hp
  subst hz
  refine call_list_range (n := n) hh (IsRange.new ..) (small_one (by decide) (by omega) (by omega) (by omega)) (by rw [rangeSize_one]; split <;> omega) hb2 fun h' tk acc' c' hk' hS hacc => ?_
  refine hQ h' _ _ acc' c' ⟨z₁.gr.trans ((Gr.keep (s := s₁) (h := h') (t := tk) fun b o e => hk' b o (Heap.get?_push_of_some _ e))), rfl⟩ (.of fun b o e => hk' b o (Heap.get?_push_of_some _ e)) (fun o e => absurd (Heap.lt_size e) (Nat.not_lt.mpr ?_)) hS ?_
  · show s₁.heap.objs.size ≤ (s₁.heap.push _).objs.size
    rw [Heap.size_push]; exact Nat.le_succ _
  · obtain ⟨e1, e2⟩ := hacc
    have : ∀ (n : Nat) (l : List Value), l.length = n → (∀ (j : Nat) (v : Value), l[j]? = some v → ∃ t, v = Value.int ((0 : Int) + j * 1) t) → Paired (fun i y => IntV y i) ((List.range n).map Int.ofNat) l := by
      intro n
      induction n with
      | zero => intro l hl _; cases l with | nil => exact .nil | cons _ _ => simp at hl
      | succ n ih =>
        intro l hl hv
        have hne : l ≠ [] := by rintro rfl; simp at hl
        rw [← List.dropLast_concat_getLast hne, List.range_succ, List.map_append]
        refine Paired.snoc (ih l.dropLast (by simp [hl]) fun j v hj => ?_) ?_
        · have hj' : j < l.dropLast.length := by
            rw [List.getElem?_eq_some_iff] at hj; exact hj.1
          refine hv j v ?_
          rw [List.getElem?_dropLast] at hj
          split at hj
          · exact hj
          · cases hj
        · obtain ⟨t, ht⟩ := hv n (l.getLast hne) (by rw [List.getLast_eq_getElem, List.getElem?_eq_getElem (by omega)]; congr 1; simp [hl])
          exact ⟨t, by rw [ht]; show Value.int (0 + (n : Int) * 1) t = Value.int (Int.ofNat n) t; congr 1; simp⟩
    exact this n acc'.toList (by simpa using e1) (fun j v hj => e2 j v (by simpa using hj))
end
section
variable {prog : Program} {w : World} {A : Around} {E : Value → Shared → Prop} {s s₀ : Shared} {h h₀ : Heap} {env : Env} {Q : Value → Shared → Prop} {m cm : Mp} {oc : List (Str × Addr)}
theorem popL {x y : Str} {D l : Addr} {ys : Array Value} {zz : Nat} {is ds : List Int} {i k : Nat} {j : Int} {p p1 p2 p3 apos pos : Pos} (z : At s₀ h s) (k0 : Kp s₀.heap h₀) (I : Inn h₀ env.locals oc m cm [(D, lobj ys zz)] h)
    (pr : Paired (fun i y => IntV y i) is ys.toList) (hsz : is.length ≤ 100) (m1 : m x = some (.ref D)) (m2 : m y = some (.ref l)) (hl : LI h₀ l ds) (hd : ds.length ≤ 100) (hj0 : 0 ≤ j) (hj : j < ds.length) (e : ds.getD j.toNat 0 = i) (hi : i < is.length)
    (hQ : ∀ h' s' ys' zz' t, At s₀ h' s' → Inn h₀ env.locals oc m cm [(D, lobj ys' zz')] h' → Paired (fun i y => IntV y i) (is.eraseIdx i) ys'.toList → Q (.int (is.getD i 0) t) s')
    (hk : env.scope.kind = .function := by rfl) (hx : env.kindOf x = some .local := by rfl) (hdx : (x == ("__debug__" : Str)) = false := by decide) (hy : env.kindOf y = some .local := by rfl) (hdy : (y == ("__debug__" : Str)) = false := by decide)
    (hbase : attributeBase (.Name x p) "pop" env (eval (.Name x p) env) = eval (.Name x p) env := by rfl)
    (hfew : ((backTo pos (starEach [.Subscript (.Name y p1) (.Constant (.int j) k p2) p3] env)).all (fun x => !x.1) && (backToKw pos (keywordEach [] env)).all (fun x => x.1.isSome)
      && decide (([.Subscript (.Name y p1) (.Constant (.int j) k p2) p3] : List Expr).length + ([] : List Keyword).length + (if ([] : List Keyword).isEmpty then 0 else 1) < 30)) = true := by rfl)
    (hline : (apos.endLine == pos.line) = true := by rfl) (htrees : backTo pos (starEach [.Subscript (.Name y p1) (.Constant (.int j) k p2) p3] env) = [(false, eval (.Subscript (.Name y p1) (.Constant (.int j) k p2) p3) env)] := by rfl) :
    wpAny (model prog w) A (eval (.Call (.Attribute (.Name x p) "pop" apos) [.Subscript (.Name y p1) (.Constant (.int j) k p2) p3] [] pos) env) Q E s := by
  have hlen := pr.length
  have hg : is[i]? = some (is.getD i 0) := by rw [List.getD_eq_getElem?_getD, List.getElem?_eq_getElem hi]; rfl
  obtain ⟨v, hv, tv, rfl⟩ := Paired.get pr i _ hg
  have hsy : ys.size = is.length := by rw [← Array.length_toList]; exact hlen.symm
  refine popE (nL z I.ns m1 ⟨D, ys, zz, rfl, z.hp ▸ I.get (.head _), ?_⟩ hk hx hdx) hbase hfew hline htrees
  refine sLI (nL z I.ns m2 (cInt z fun t₁ s₁ z₁ => ⟨_, _, l, ds, j, t₁, z₁, rfl, rfl, I.keep.li hl, hj0, hj, by omega, fun t₂ => ?_⟩) hk hy hdy)
  rw [e]
  refine ⟨i, t₂, _, ys, zz, rfl, z₁.hp ▸ I.get (.head _), by omega, by simpa using hv, fun h' n' e' hs' => ?_⟩
  have I' : Inn h₀ env.locals oc m cm [(D, lobj (ys.eraseIdxIfInBounds i) n')] h' := Inn.set (l1 := []) (z₁.hp ▸ I) (fun b o hb e => hs'.extBut b o hb e) e' (not_isT_cls rfl)
  refine hQ h' _ _ n' tv (z₁.in (.heap1 _ _) rfl k0 I') I' ?_
  rw [arr_erase (by omega)]
  exact Paired.erase i pr
end
def rtsF (d0 d1 d2 : Nat) : List Nat := [(List.range 12).getD d0 0, ((List.range 12).eraseIdx d0).getD d1 0, (((List.range 12).eraseIdx d0).eraseIdx d1).getD d2 0]
section
variable {w : World} {mg mb : Mp} {A : Around} {s s₀ : Shared} {h h₀ : Heap} {Q : Flow → Shared → Prop} {E : Value → Shared → Prop} {L : Addr} {q : Str} {m cm : Mp}
theorem law_2 (z : At s₀ h s) (k0 : Kp s₀.heap h₀) (W : Wd (Mine.hd.heap_39 w.params) mg mb h₀) (hA : Rm 1 A) (I : Inn h₀ L (lawOc L) m cm [] h)
    (hrest : ∀ s' h' D ys zz, At s₀ h' s' → Inn h₀ L (lawOc L) (up m (Str.ofString "left") (.ref D)) cm [(D, lobj ys zz)] h' → Paired (fun i y => IntV y i) ((List.range 12).map Int.ofNat) ys.toList → s.toks ≤ s'.toks →
      wpAny (model PySem.Challenge.rw_tv0030_01.row.prog w) A (execs ((lawBody w.params).drop 3) (lawEnv w.params L q)) Q E s') :
    wpAny (model PySem.Challenge.rw_tv0030_01.row.prog w) A (execs ((lawBody w.params).drop 2) (lawEnv w.params L q)) Q E s := by
  have Wh := W.kp I.keep
  refine execs_up (wpAny_Assign_Name (listRange (n := 12) z hA.h Wh (by rfl) (by rfl) rfl (by decide) fun h₁ s₁ D ys zz z₁ k₁ nD eD pr => ?_))
  refine sL z₁ k0 (I.new k₁ nD eD (not_isT_cls rfl)) fun h₂ s₂ z₂ I2 hs2 => ?_
  exact fun hup => hrest s₂ h₂ D ys zz z₂ I2 pr hup
theorem law_3 (z : At s₀ h s) (k0 : Kp s₀.heap h₀) (W : Wd (Mine.hd.heap_39 w.params) mg mb h₀) {D l : Addr} {ys : Array Value} {zz : Nat} (I : Inn h₀ L (lawOc L) m cm [(D, lobj ys zz)] h)
    (pr : Paired (fun i y => IntV y i) ((List.range 12).map Int.ofNat) ys.toList) (m1 : m (Str.ofString "left") = some (.ref D)) (m2 : m (Str.ofString "digits") = some (.ref l))
    {d0 d1 d2 d3 d4 d5 d6 : Nat} (hl : LI h₀ l [(d0 : Int), (d1 : Int), (d2 : Int), (d3 : Int), (d4 : Int), (d5 : Int), (d6 : Int)]) (b0 : d0 < 12) (b1 : d1 < 11) (b2 : d2 < 10)
    (hrest : ∀ s' h' h₁ D', At s₀ h' s' → Kp h₀ h₁ → Kp s₀.heap h₁ → Inn h₁ L (lawOc L) m (up cm (Str.ofString "rights") (.ref D')) [] h' → LI h₁ D' ((rtsF d0 d1 d2).map Int.ofNat) → s.toks ≤ s'.toks →
      wpAny (model PySem.Challenge.rw_tv0030_01.row.prog w) A (execs ((lawBody w.params).drop 4) (lawEnv w.params L q)) Q E s') :
    wpAny (model PySem.Challenge.rw_tv0030_01.row.prog w) A (execs ((lawBody w.params).drop 3) (lawEnv w.params L q)) Q E s := by
  refine execs_up (wpAny_Assign_Name (mkList (wpAny_items_cons (popL z k0 I pr (by simp) m1 m2 hl (by simp) (by decide) (by simp) (i := d0) (by rfl) (by simpa using b0) ?_))))
  intro h1 s1 ys1 zz1 t1 z1 I1 pr1
  have l1 : (((List.range 12).map Int.ofNat).eraseIdx d0).length = 11 := by rw [List.length_eraseIdx, if_pos (by simpa using b0)]; simp
  refine wpAny_items_cons (popL z1 k0 I1 pr1 (by omega) m1 m2 hl (by simp) (by decide) (by simp) (i := d1) (by rfl) (by omega) ?_)
  intro h2 s2 ys2 zz2 t2 z2 I2 pr2
  have l2 : ((((List.range 12).map Int.ofNat).eraseIdx d0).eraseIdx d1).length = 10 := by rw [List.length_eraseIdx, if_pos (by omega), l1]
  refine wpAny_items_cons (popL z2 k0 I2 pr2 (by omega) m1 m2 hl (by simp) (by decide) (by simp) (i := d2) (by rfl) (by omega) ?_)
  intro h3 s3 ys3 zz3 t3 z3 I3 pr3
  refine wpAny_items_nil ⟨Nat.le_of_ble_eq_true rfl, _, _, z3, fun D' h4 s4 z4 k4 n4 pl4 => ?_⟩
  have I4 := (I3.drop (led' := []) (.cons _ (.refl _))).kp k4
  refine finC (c := L + 1) z4 k0 I4 (by simp [lawOc]) (by rfl) fun h5 s5 h₁ z5 k1 k2 I5 hb => ?_
  refine fun hup => hrest s5 h5 h₁ D' z5 k1 k2 I5 (hb.li (I3.base n4) ?_) hup
  have eg : ∀ (l : List Nat) (i : Nat), (l.map Int.ofNat).getD i 0 = Int.ofNat (l.getD i 0) := fun l i => by
    rw [List.getD_eq_getElem?_getD, List.getD_eq_getElem?_getD, List.getElem?_map]
    cases l[i]? <;> rfl
  refine ⟨_, pl4, ?_⟩
  rw [show (rtsF d0 d1 d2).map Int.ofNat = [((List.range 12).map Int.ofNat).getD d0 0, (((List.range 12).map Int.ofNat).eraseIdx d0).getD d1 0, ((((List.range 12).map Int.ofNat).eraseIdx d0).eraseIdx d1).getD d2 0] from by
    rw [map_er, map_er, eg, eg, eg]; rfl]
  exact .cons ⟨_, rfl⟩ (.cons ⟨_, rfl⟩ (.cons ⟨_, rfl⟩ .nil))
end
end Mine
end

section
open PySem PySem.Spec PySem.Calls PySem.W PyProof.Rows
set_option Elab.async false
namespace Mine
set_option maxRecDepth 100000
theorem getD_map_nat (l : List Nat) (i : Nat) : (l.map Int.ofNat).getD i 0 = ((l.getD i 0 : Nat) : Int) := by
  rw [List.getD_eq_getElem?_getD, List.getD_eq_getElem?_getD, List.getElem?_map]
  cases l[i]? <;> rfl
section
variable {prog : Program} {w : World} {A : Around} {s s₀ : Shared} {h : Heap} {env : Env}
/-- a list of ints, by its name, to be gone through -/
theorem srcLI {iter : Expr} {l : Addr} {is : List Int} (z : At s₀ h s) (hh : A.handled = none) (hl : LI h l is)
    (q : ∀ (E Q : Value → Shared → Prop), Q (.ref l) s → wpAny (model prog w) A (eval iter env) Q E s) : Src prog w A iter env s is.length (fun i v => IntV v (is.getD i 0)) := by
  obtain ⟨ys, pl, pr⟩ := hl
  have S := src_of_list (prog := prog) (w := w) (A := A) (iter := iter) (env := env) (s := s) (l := l) (items := ys) hh fun E Q hq => q E Q (hq s (.refl s) (z.hp.symm ▸ pl))
  have hs : ys.size = is.length := by rw [← Array.length_toList]; exact pr.length.symm
  rw [hs] at S
  refine ⟨fun E Q hq => S.run E Q fun s₂ I fp wr St g Wk st => hq s₂ I fp wr St g ?_ st⟩
  refine ⟨Wk.sub, Wk.frame, fun i s Q E hi st hQ => Wk.item i s Q E hi st fun v h' tk hv => hQ v h' tk ?_, Wk.done, Wk.self⟩
  obtain ⟨a, ha, hav⟩ := Paired.get' pr i v (by simpa using hv)
  rw [List.getD_eq_getElem?_getD, ha]
  exact hav
end
section
variable {w : World} {mg mb : Mp} {A : Around} {s s₀ : Shared} {h h₀ : Heap} {Q : Flow → Shared → Prop} {E : Value → Shared → Prop} {L : Addr} {q : Str} {m cm : Mp}
theorem law_4 (z : At s₀ h s) (k0 : Kp s₀.heap h₀) (I : Inn h₀ L (lawOc L) m cm [] h) {l : Addr} (m2 : m (Str.ofString "digits") = some (.ref l))
    {d0 d1 d2 d3 d4 d5 d6 : Int} (hl : LI h₀ l [d0, d1, d2, d3, d4, d5, d6])
    (hrest : ∀ s' h' h₁ D', At s₀ h' s' → Kp h₀ h₁ → Kp s₀.heap h₁ → Inn h₁ L (lawOc L) m (up cm (Str.ofString "weights") (.ref D')) [] h' → LI h₁ D' [d3, d4, d5] → s.toks ≤ s'.toks →
      wpAny (model PySem.Challenge.rw_tv0030_01.row.prog w) A (execs ((lawBody w.params).drop 5) (lawEnv w.params L q)) Q E s') :
    wpAny (model PySem.Challenge.rw_tv0030_01.row.prog w) A (execs ((lawBody w.params).drop 4) (lawEnv w.params L q)) Q E s := by
  refine execs_up (wpAny_Assign_Name (sliceFT (a := 3) (b := 6) (nL z I.ns m2 ⟨_, _, l, _, z, rfl, I.keep.li hl, by exact Nat.le_of_ble_eq_true rfl, by simp, by decide, fun D h₁ s₁ z₁ k₁ nD li => ?_⟩)))
  refine finC (c := L + 2) z₁ k0 (I.kp k₁) (by simp [lawOc]) (by rfl) fun h5 s5 h₁ z5 k1 k2 I5 hb => ?_
  exact fun hup => hrest s5 h5 h₁ D z5 k1 k2 I5 (hb.li (I.base nD) li) hup
theorem law_5 (z : At s₀ h s) (k0 : Kp s₀.heap h₀) (I : Inn h₀ L (lawOc L) m cm [] h) {l : Addr} (m2 : m (Str.ofString "digits") = some (.ref l))
    {d0 d1 d2 d3 d4 d5 d6 : Int} (hl : LI h₀ l [d0, d1, d2, d3, d4, d5, d6])
    (hrest : ∀ s' h' h₁ t, At s₀ h' s' → Kp h₀ h₁ → Kp s₀.heap h₁ → Inn h₁ L (lawOc L) m (up cm (Str.ofString "days") (.int (d6 + 1) t)) [] h' → s.toks ≤ s'.toks →
      wpAny (model PySem.Challenge.rw_tv0030_01.row.prog w) A (execs ((lawBody w.params).drop 6) (lawEnv w.params L q)) Q E s') :
    wpAny (model PySem.Challenge.rw_tv0030_01.row.prog w) A (execs ((lawBody w.params).drop 5) (lawEnv w.params L q)) Q E s := by
  refine execs_up (wpAny_Assign_Name (wpAny_BinOp (sLI (nL z I.ns m2 (cInt z fun t₁ s₁ z₁ => ⟨_, _, l, _, 6, t₁, z₁, rfl, rfl, I.keep.li hl, by decide, by simp, by simp, fun t₂ => cInt z₁ fun t₃ s₃ z₃ => addI z₃ fun t₄ s₄ z₄ => ?_⟩)))))
  exact finC (c := L + 3) z₄ k0 I (by simp [lawOc]) (by rfl) fun h5 s5 h₁ z5 k1 k2 I5 hb hup => hrest s5 h5 h₁ t₄ z5 k1 k2 I5 hup
theorem law_6 (z : At s₀ h s) (k0 : Kp s₀.heap h₀) (I : Inn h₀ L (lawOc L) m cm [] h) {l : Addr} {xs : List Int} (m2 : m (Str.ofString "cells") = some (.ref l)) (hl : LI h₀ l xs) (hlen : xs.length = 10)
    (hrest : ∀ s' h' h₁ (N : Nat) t, At s₀ h' s' → Kp h₀ h₁ → Kp s₀.heap h₁ → N < 2 ^ 32 → Inn h₁ L (lawOc L) m (up cm (Str.ofString "whole") (.int N t)) [] h' → s.toks ≤ s'.toks →
      wpAny (model PySem.Challenge.rw_tv0030_01.row.prog w) A (execs ((lawBody w.params).drop 7) (lawEnv w.params L q)) Q E s') :
    wpAny (model PySem.Challenge.rw_tv0030_01.row.prog w) A (execs ((lawBody w.params).drop 6) (lawEnv w.params L q)) Q E s := by
  refine execs_up (wpAny_Assign_Name (wpAny_BinOp (sLI (nL z I.ns m2 (cInt z fun t₁ s₁ z₁ => ⟨_, _, l, _, 9, t₁, z₁, rfl, rfl, I.keep.li hl, by decide, by omega, by omega, fun t₂ => ?_⟩)))))
  refine wpAny_BinOp (cInt z₁ fun t₃ s₃ z₃ => cInt z₃ fun t₄ s₄ z₄ => powI z₄ (by decide) (by decide) (by decide) fun t₅ s₅ z₅ => modI z₅ (by decide) fun t₆ s₆ z₆ => ?_)
  have h1 := Int.fmod_nonneg_of_pos (xs.getD (9 : Int).toNat 0) (b := 2 ^ (32 : Int).toNat) (by decide)
  have h2 := Int.fmod_lt_of_pos (xs.getD (9 : Int).toNat 0) (b := 2 ^ (32 : Int).toNat) (by decide)
  have e32 : (2 : Int) ^ (32 : Int).toNat = 4294967296 := by decide
  rw [e32] at h1 h2 ⊢
  obtain ⟨N, hN⟩ := Int.eq_ofNat_of_zero_le h1
  rw [hN] at h2 ⊢
  exact finC (c := L + 4) z₆ k0 I (by simp [lawOc]) (by rfl) fun h5 s5 h₁ z5 k1 k2 I5 hb hup => hrest s5 h5 h₁ N t₆ z5 k1 k2 (by omega) I5 hup
def offF (N : Int) (r : Nat) : Int := (N.fdiv (2 ^ r)).fmod 2 * 2 ^ r
theorem law_7 (z : At s₀ h s) (k0 : Kp s₀.heap h₀) (W : Wd (Mine.hd.heap_39 w.params) mg mb h₀) (hA : Rm 1 A) (I : Inn h₀ L (lawOc L) m cm [] h) {l : Addr} {rs : List Nat} {N : Int} {t : Tok} (c1 : cm (Str.ofString "whole") = some (.int N t))
    (c2 : cm (Str.ofString "rights") = some (.ref l)) (hl : LI h₀ l (rs.map Int.ofNat)) (hlen : rs.length = 3) (hr : ∀ r ∈ rs, r < 12)
    (hrest : ∀ s' h' h₁ t, At s₀ h' s' → Kp h₀ h₁ → Kp s₀.heap h₁ → Inn h₁ L (lawOc L) m (up cm (Str.ofString "kept") (.int (N - (rs.map (offF N)).sum) t)) [] h' → s.toks ≤ s'.toks →
      wpAny (model PySem.Challenge.rw_tv0030_01.row.prog w) A (execs ((lawBody w.params).drop 8) (lawEnv w.params L q)) Q E s') :
    wpAny (model PySem.Challenge.rw_tv0030_01.row.prog w) A (execs ((lawBody w.params).drop 7) (lawEnv w.params L q)) Q E s := by
  have Wh := W.kp I.keep
  have e1 : h.IsCell (L + 4) (some (.int N t)) := c1 ▸ I.cell (Str.ofString "whole", L + 4) (by simp [lawOc])
  have e2 : h.IsCell (L + 1) (some (.ref l)) := c2 ▸ I.cell (Str.ofString "rights", L + 1) (by simp [lawOc])
  refine execs_up (wpAny_Assign_Name (wpAny_BinOp (nC z e1 (by rfl) (cB z Wh (by rfl) boot_sum (by decide) (wpAny_items_cons ?_)))))
  refine cmp (n := (rs.map Int.ofNat).length) (p := fun _ => true) (F := fun _ i y _ => IntV y (offF N (rs.getD i 0))) z (srcLI z hA.h (I.keep.li hl) fun E Q hq => nC z e2 (by rfl) hq) (by rw [List.length_map, hlen]; decide) (fun h₀ C kh hC => turn_local ?tests ?elt) ?hF ?hQ (by rfl) (by decide) (by decide)
  case tests => intro i v s m cm E hi hv hm x; exact tests_no (i := i)
  case hF => intro k k' i y h h' _ _ f; exact f
  case elt =>
    intro i v s m cm E hi ⟨tv, hv⟩ hp hm x
    subst hv
    have zs := At.here s
    have ka := x.keep.cell (kh.cell e1)
    have hi3 : i < rs.length := by simpa using hi
    have hr12 : rs.getD i 0 < 12 := hr _ (by rw [List.getD_eq_getElem?_getD, List.getElem?_eq_getElem hi3]; exact List.getElem_mem _)
    rw [getD_map_nat] at hm
    generalize rs.getD i 0 = r at hm hr12 ⊢
    have e2 : (2 : Int) ^ ((r : Int).toNat) = 2 ^ r := by simp
    have hb : (0 : Int) < 2 ^ r ∧ (2 : Int) ^ r ≤ 2048 := by
      rcases (lt12 (by omega) : r = 0 ∨ r = 1 ∨ r = 2 ∨ r = 3 ∨ r = 4 ∨ r = 5 ∨ r = 6 ∨ r = 7 ∨ r = 8 ∨ r = 9 ∨ r = 10 ∨ r = 11) with rfl | rfl | rfl | rfl | rfl | rfl | rfl | rfl | rfl | rfl | rfl | rfl <;> decide
    refine wpAny_BinOp (wpAny_BinOp (wpAny_BinOp (nC zs ka (by rfl) (wpAny_BinOp (cInt zs fun t₁ s₁ z₁ => nL z₁ x.ns hm (powI z₁ (by omega) (by omega) (by decide) fun t₂ s₂ z₂ => ?_))))))
    rw [e2]
    refine fdivI z₂ (by omega) (by omega) fun t₃ s₃ z₃ => cInt z₃ fun t₄ s₄ z₄ => modI z₄ (by decide) fun t₅ s₅ z₅ => wpAny_BinOp (cInt z₅ fun t₆ s₆ z₆ => nL z₆ x.ns hm (powI z₆ (by omega) (by omega) (by decide) fun t₇ s₇ z₇ => ?_))
    rw [e2]
    have h1 := Int.fmod_nonneg_of_pos (N.fdiv (2 ^ r)) (b := 2) (by decide)
    have h2 := Int.fmod_lt_of_pos (N.fdiv (2 ^ r)) (b := 2) (by decide)
    exact mulI z₇ (mul_small (by omega) (by omega)) fun t₈ s₈ z₈ => ⟨⟨t₈, rfl⟩, z₈.gr⟩
  case hQ =>
    intro D k h₂ s₂ ys z₂ k₂ hD pl pr
    have e : ((List.range (rs.map Int.ofNat).length).filter fun _ => true).map (fun i => offF N (rs.getD i 0)) = rs.map (offF N) := by
      rw [List.length_map, List.filter_eq_self.mpr (fun _ _ => rfl), hlen]
      match rs, hlen with
      | [_, _, _], _ => rfl
    refine wpAny_items_nil (sumLI z₂ hA.h ⟨ys, pl, e ▸ Paired.map (F := fun i y => IntV y i) (fun i => offF N (rs.getD i 0)) pr⟩ fun h₃ s₃ t' z₃ k₃ => subI z₃ fun t₄ s₄ z₄ => ?_)
    exact finC (c := L + 5) z₄ k0 ((I.kp k₂).kp k₃) (by simp [lawOc]) (by rfl) fun h5 s5 h₁ z5 k1 k2 I5 hb hup => hrest s5 h5 h₁ t₄ z5 k1 k2 I5 hup
end
end Mine
end

section
open PySem PySem.Spec PySem.Calls PySem.W PyProof.Rows
set_option Elab.async false
namespace Mine
set_option maxRecDepth 100000
section
variable {prog : Program} {w : World} {A : Around} {s s₀ : Shared} {h : Heap} {env : Env}
/-- a list, by its name, to be gone through -/
theorem srcP {α : Type} {iter : Expr} {l : Addr} {F : α → Value → Prop} {as : List α} {ys : Array Value} (z : At s₀ h s) (hh : A.handled = none) (pl : h.PlainList l ys) (pr : Paired F as ys.toList)
    (q : ∀ (E Q : Value → Shared → Prop), Q (.ref l) s → wpAny (model prog w) A (eval iter env) Q E s) : Src prog w A iter env s as.length (fun i v => ∃ a, as[i]? = some a ∧ F a v) := by
  have S := src_of_list (prog := prog) (w := w) (A := A) (iter := iter) (env := env) (s := s) (l := l) (items := ys) hh fun E Q hq => q E Q (hq s (.refl s) (z.hp.symm ▸ pl))
  have hs : ys.size = as.length := by rw [← Array.length_toList]; exact pr.length.symm
  rw [hs] at S
  refine ⟨fun E Q hq => S.run E Q fun s₂ I fp wr St g Wk st => hq s₂ I fp wr St g ?_ st⟩
  exact ⟨Wk.sub, Wk.frame, fun i s Q E hi st hQ => Wk.item i s Q E hi st fun v h' tk hv => hQ v h' tk (Paired.get' pr i v (by simpa using hv)), Wk.done, Wk.self⟩
end
theorem filt_all (n : Nat) : (List.range n).filter (fun _ => true) = List.range n := List.filter_eq_self.mpr (fun _ _ => rfl)
theorem bit_test {prog : Program} {w : World} {A : Around} {s : Shared} {env : Env} {E : Value → Shared → Prop} {i a : Nat} {tv ta : Tok} {m : Mp} {c : Addr} {x y : Str} {px py p1 p2 p3 p4 p5 p6 p7 : Pos} {k1 k2 k3 : Nat} (hi : i < 3) (hm : m x = some (.int i tv)) (hns : s.heap.Ns env.locals m) (hc : s.heap.IsCell c (some (.int a ta)))
    (hl : env.cells.lookup y = some c)
    (hk : env.scope.kind = .function := by rfl) (hx : env.kindOf x = some .local := by rfl) (hd : (x == ("__debug__" : Str)) = false := by decide) (hy : env.kindOf y = some .cell := by rfl) (hdy : (y == ("__debug__" : Str)) = false := by decide) : 
    wpAny (model prog w) A (forIn [Expr.Compare (.BinOp (.BinOp (.Name y py) .FloorDiv (.BinOp (.Constant (Const.int 2) k1 p1) .Pow (.Name x px) p2) p3) .Mod (.Constant (Const.int 2) k2 p4) p5) [.Eq] [.Constant (Const.int 1) k3 p6] p7] true
      fun c r => if r = true then do let ok ← isTrue c env (eval c env); pure (ForInStep.yield ok) else pure (ForInStep.yield r)) (fun ok s' => ok = bitF a i ∧ Gr s s') E s := by
  have zs := At.here s
  have e2 : (2 : Int) ^ ((i : Int).toNat) = 2 ^ i := by simp
  have hb : (2 : Int) ^ i = 1 ∨ (2 : Int) ^ i = 2 ∨ (2 : Int) ^ i = 4 := by
    rcases (by omega : i = 0 ∨ i = 1 ∨ i = 2) with rfl | rfl | rfl <;> simp
  refine wpAny_tests_one (wpAny_isTrue_Compare1 (wpAny_BinOp (wpAny_BinOp (nC zs hc hl (wpAny_BinOp (cInt zs fun t₁ s₁ z₁ => nL z₁ hns hm (powI z₁ (by omega) (by omega) (by decide) fun t₂ s₂ z₂ => ?_) hk hx hd)) hk hy hdy))))
  rw [e2]
  refine fdivI z₂ (by omega) (by omega) fun t₃ s₃ z₃ => cInt z₃ fun t₄ s₄ z₄ => modI z₄ (by decide) fun t₅ s₅ z₅ => cInt z₅ fun t₆ s₆ z₆ => ?_
  exact eq_int (wpAny_truthy_bool ⟨rfl, z₆.gr⟩)
def plusF (rs : List Nat) (a : Nat) : Int := (((List.range 3).filter (bitF a)).map fun k => (2 : Int) ^ (rs.getD k 0)).sum
def sumShown (rs : List Nat) (row : Str) : Int := (((List.range 3).filter fun k => shownF row (rs.getD k 0)).map fun k => (2 : Int) ^ k).sum
section
variable {w : World} {mg mb : Mp} {A : Around} {s s₀ : Shared} {h h₀ : Heap} {Q : Flow → Shared → Prop} {E : Value → Shared → Prop} {L : Addr} {q : Str} {m cm : Mp}
set_option maxHeartbeats 8000000 in
theorem law_8 (z : At s₀ h s) (k0 : Kp s₀.heap h₀) (W : Wd (Mine.hd.heap_39 w.params) mg mb h₀) (hA : Rm 2 A) (I : Inn h₀ L (lawOc L) m cm [] h) {l : Addr} {rs : List Nat} {K : Int} {t : Tok} (c1 : cm (Str.ofString "kept") = some (.int K t))
    (c2 : cm (Str.ofString "rights") = some (.ref l)) (hl : LI h₀ l (rs.map Int.ofNat)) (hlen : rs.length = 3) (hr : ∀ r ∈ rs, r < 12) (Ms : Nat → Nat) (hM : ∀ a, a < 8 → K + plusF rs a = Ms a)
    (hrest : ∀ s' h' h₁ D, At s₀ h' s' → Kp h₀ h₁ → Kp s₀.heap h₁ → Inn h₁ L (lawOc L) m (up cm (Str.ofString "rows") (.ref D)) [] h' → LS h₁ D ((List.range 8).map fun a => rowF (Ms a)) → s.toks ≤ s'.toks →
      wpAny (model PySem.Challenge.rw_tv0030_01.row.prog w) A (execs ((lawBody w.params).drop 9) (lawEnv w.params L q)) Q E s') :
    wpAny (model PySem.Challenge.rw_tv0030_01.row.prog w) A (execs ((lawBody w.params).drop 8) (lawEnv w.params L q)) Q E s := by
  have Wh := W.kp I.keep
  have e1 : h.IsCell (L + 5) (some (.int K t)) := c1 ▸ I.cell (Str.ofString "kept", L + 5) (by simp [lawOc])
  have e2 : h.IsCell (L + 1) (some (.ref l)) := c2 ▸ I.cell (Str.ofString "rights", L + 1) (by simp [lawOc])
  have hlh := I.keep.li hl
  refine execs_up (wpAny_Assign_Name (cmp (n := 8) (p := fun _ => true) (F := fun _ i y _ => StrV y (rowF (Ms i))) z (sRange z hA.h Wh (by rfl) rfl (by decide)) (by decide) (fun h₀ C kh hC => turn_cell (c := C + 1) ?tests ?elt (.head _) (by rfl)) ?hF ?hQ (by rfl) (by decide) (by decide)))
  case tests => intro i v s m cm E hi hv hm x; exact tests_no (i := i)
  case hF => intro k k' i y h h' _ _ f; exact f
  case elt =>
    intro i v s m cm E hi ⟨tv, hv⟩ hp hm x
    subst hv
    have zc := At.here s
    have ck := x.keep.cell (kh.cell e1)
    have cr := x.keep.cell (kh.cell e2)
    have li := x.keep.li (kh.li hlh)
    have Wc := (Wh.kp kh).kp x.keep
    have cs : s.heap.IsCell (C + 1) (some (.int i tv)) := hm ▸ x.cell (Str.ofString "some", C + 1) (.head _)
    refine cF zc Wc (by rfl) (by rfl) (wpAny_items_cons (wpAny_BinOp (nC zc ck (by rfl) (cB zc Wc (by rfl) boot_sum (by decide) (wpAny_items_cons ?_)))))
    refine cmp (n := 3) (p := bitF i) (F := fun _ k y _ => IntV y ((2 : Int) ^ (rs.getD k 0))) zc (sRange zc hA.h Wc (by rfl) rfl (by decide)) (by decide) (fun h₀' C' kh' hC' => turn_local ?t2 ?e2) ?hF2 ?hQ2 (by rfl) (by decide) (by decide)
    case t2 =>
      intro j v s m cm E hj ⟨tj, hv⟩ hm x
      subst hv
      exact bit_test hj hm x.ns (x.keep.cell (kh'.cell cs)) (by rfl)
    case hF2 => intro k k' i y h h' _ _ f; exact f
    case e2 =>
      intro j v s m cm E hj ⟨tj, hv⟩ hp hm x
      subst hv
      have zs := At.here s
      have hr12 : rs.getD j 0 < 12 := hr _ (by rw [List.getD_eq_getElem?_getD, List.getElem?_eq_getElem (by omega)]; exact List.getElem_mem _)
      refine wpAny_BinOp (cInt zs fun t₁ s₁ z₁ => sLI (nC z₁ (x.keep.cell (kh'.cell cr)) (by rfl) (nL z₁ x.ns hm ⟨_, _, l, _, j, tj, z₁, rfl, rfl, x.keep.li (kh'.li li), by omega, by rw [List.length_map]; omega, by rw [List.length_map]; omega, fun t₂ => ?_⟩)))
      rw [Int.toNat_natCast, getD_map_nat]
      refine powI z₁ (by omega) (by omega) (by decide) fun t₃ s₃ z₃ => ⟨⟨t₃, ?_⟩, z₃.gr⟩
      rw [Int.toNat_natCast]
    case hQ2 =>
      intro D k h₂ s₂ ys z₂ k₂ hD pl pr
      refine wpAny_items_nil (sumLI z₂ hA.h ⟨ys, pl, Paired.map (F := fun i y => IntV y i) (fun k => (2 : Int) ^ (rs.getD k 0)) pr⟩ fun h₃ s₃ t' z₃ k₃ => addI z₃ fun t₄ s₄ z₄ => wpAny_items_nil ⟨h₃, z₄, k₂.trans k₃, ?_⟩)
      rw [show K + (List.map (fun k => (2 : Int) ^ (rs.getD k 0)) (List.filter (bitF i) (List.range 3))).sum = Ms i from hM i hi]
      exact filemode_c z₄ ((Wc.kp k₂).kp k₃) hA fun h₅ s₅ t₅ z₅ k₅ => ⟨⟨t₅, rfl⟩, z₅.gr⟩
  case hQ =>
    intro D k h₂ s₂ ys z₂ k₂ hD pl pr
    rw [filt_all] at pr
    refine finC (c := L + 6) z₂ k0 (I.kp k₂) (by simp [lawOc]) (by rfl) fun h5 s5 h₁ z5 k1 k2 I5 hb hup => hrest s5 h5 h₁ D z5 k1 k2 I5 ?_ hup
    obtain ⟨nd1, nd2⟩ := I.base hD
    obtain ⟨nn, e⟩ := pl
    exact ⟨ys, ⟨nn, hb _ _ e nd1 nd2⟩, Paired.map (F := fun i y => StrV y i) (fun a => rowF (Ms a)) pr⟩
set_option maxHeartbeats 8000000 in
theorem law_9 (z : At s₀ h s) (k0 : Kp s₀.heap h₀) (W : Wd (Mine.hd.heap_39 w.params) mg mb h₀) (hA : Rm 1 A) (I : Inn h₀ L (lawOc L) m cm [] h) {l lr : Addr} {rs : List Nat} {rows : List Str} (c1 : cm (Str.ofString "rows") = some (.ref lr)) (hlr : LS h₀ lr rows) (hrl : rows.length = 8) (hrow : ∀ r ∈ rows, r.length = 10)
    (c2 : cm (Str.ofString "rights") = some (.ref l)) (hl : LI h₀ l (rs.map Int.ofNat)) (hlen : rs.length = 3) (hr : ∀ r ∈ rs, r < 12)
    (hrest : ∀ s' h' h₁ D, At s₀ h' s' → Kp h₀ h₁ → Kp s₀.heap h₁ → Inn h₁ L (lawOc L) m (up cm (Str.ofString "shown") (.ref D)) [] h' → LI h₁ D (rows.map (sumShown rs)) → s.toks ≤ s'.toks →
      wpAny (model PySem.Challenge.rw_tv0030_01.row.prog w) A (execs ((lawBody w.params).drop 10) (lawEnv w.params L q)) Q E s') :
    wpAny (model PySem.Challenge.rw_tv0030_01.row.prog w) A (execs ((lawBody w.params).drop 9) (lawEnv w.params L q)) Q E s := by
  have Wh := W.kp I.keep
  have e1 : h.IsCell (L + 6) (some (.ref lr)) := c1 ▸ I.cell (Str.ofString "rows", L + 6) (by simp [lawOc])
  have e2 : h.IsCell (L + 1) (some (.ref l)) := c2 ▸ I.cell (Str.ofString "rights", L + 1) (by simp [lawOc])
  have hlh := I.keep.li hl
  obtain ⟨yr, plr, prr⟩ := I.keep.ls hlr
  refine execs_up (wpAny_Assign_Name (cmp (n := rows.length) (p := fun _ => true) (F := fun _ i y _ => IntV y (sumShown rs (rows.getD i default))) z (srcP z hA.h plr prr fun E Q hq => nC z e1 (by rfl) hq) (by rw [hrl]; decide) (fun h₀ C kh hC => turn_cell (c := C + 1) ?tests ?elt (.head _) (by rfl)) ?hF ?hQ (by rfl) (by decide) (by decide)))
  case tests => intro i v s m cm E hi hv hm x; exact tests_no (i := i)
  case hF => intro k k' i y h h' _ _ f; exact f
  case elt =>
    intro i v s m cm E hi ⟨row, hrw, tv, hv⟩ hp hm x
    subst hv
    have zc := At.here s
    have cr := x.keep.cell (kh.cell e2)
    have li := x.keep.li (kh.li hlh)
    have Wc := (Wh.kp kh).kp x.keep
    have cs : s.heap.IsCell (C + 1) (some (.str row tv)) := hm ▸ x.cell (Str.ofString "row", C + 1) (.head _)
    have h10 := hrow row (List.mem_of_getElem? hrw)
    have er : rows.getD i default = row := by rw [List.getD_eq_getElem?_getD, hrw]; rfl
    rw [er]
    refine cB zc Wc (by rfl) boot_sum (by decide) (wpAny_items_cons ?_)
    refine cmp (n := 3) (p := fun k => shownF row (rs.getD k 0)) (F := fun _ k y _ => IntV y ((2 : Int) ^ k)) zc (sRange zc hA.h Wc (by rfl) rfl (by decide)) (by decide) (fun h₀' C' kh' hC' => turn_local ?t2 ?e2) ?hF2 ?hQ2 (by rfl) (by decide) (by decide)
    case t2 =>
      intro j v s m cm E hj ⟨tj, hv⟩ hm x
      subst hv
      have zs := At.here s
      have Wx := (Wc.kp kh').kp x.keep
      have hr12 : rs.getD j 0 < 12 := hr _ (by rw [List.getD_eq_getElem?_getD, List.getElem?_eq_getElem (by omega)]; exact List.getElem_mem _)
      refine wpAny_tests_one (wpAny_isTrue_value (cF zs Wx (by rfl) (by rfl) (wpAny_items_cons (nC zs (x.keep.cell (kh'.cell cs)) (by rfl) (wpAny_items_cons ?_)))))
      refine sLI (nC zs (x.keep.cell (kh'.cell cr)) (by rfl) (nL zs x.ns hm ⟨_, _, l, _, j, tj, zs, rfl, rfl, x.keep.li (kh'.li li), by omega, by rw [List.length_map]; omega, by rw [List.length_map]; omega, fun t₂ => wpAny_items_nil ⟨_, zs, .refl _, ?_⟩⟩))
      rw [Int.toNat_natCast, getD_map_nat]
      exact shown_c zs Wx hA h10 hr12 fun h₃ s₃ z₃ k₃ => wpAny_truthy_bool ⟨rfl, z₃.gr⟩
    case hF2 => intro k k' i y h h' _ _ f; exact f
    case e2 =>
      intro j v s m cm E hj ⟨tj, hv⟩ hp hm x
      subst hv
      have zs := At.here s
      refine wpAny_BinOp (cInt zs fun t₁ s₁ z₁ => nL z₁ x.ns hm (powI z₁ (by omega) (by omega) (by decide) fun t₃ s₃ z₃ => ⟨⟨t₃, ?_⟩, z₃.gr⟩))
      rw [Int.toNat_natCast]
    case hQ2 =>
      intro D k h₂ s₂ ys z₂ k₂ hD pl pr
      exact wpAny_items_nil (sumLI z₂ hA.h ⟨ys, pl, Paired.map (F := fun i y => IntV y i) (fun k => (2 : Int) ^ k) pr⟩ fun h₃ s₃ t' z₃ k₃ => ⟨⟨t', rfl⟩, z₃.gr⟩)
  case hQ =>
    intro D k h₂ s₂ ys z₂ k₂ hD pl pr
    rw [filt_all] at pr
    refine finC (c := L + 7) z₂ k0 (I.kp k₂) (by simp [lawOc]) (by rfl) fun h5 s5 h₁ z5 k1 k2 I5 hb hup => hrest s5 h5 h₁ D z5 k1 k2 I5 (hb.li (I.base hD) ⟨ys, pl, ?_⟩) hup
    have := Paired.map (F := fun i y => IntV y i) (fun i => sumShown rs (rows.getD i default)) pr
    rw [hrl] at this
    match rows, hrl with
    | [_, _, _, _, _, _, _, _], _ => exact this
theorem law_10 (z : At s₀ h s) (W : Wd (Mine.hd.heap_39 w.params) mg mb h₀) (hA : Rm 1 A) (hu : A.units < cLine) (I : Inn h₀ L (lawOc L) m cm [] h) {l : Addr} (c1 : cm (Str.ofString "shown") = some (.ref l)) (hl : LI h₀ l ((List.range 8).map Int.ofNat))
    (hrest : ∀ s' h', At s₀ h' s' → Inn h₀ L (lawOc L) m cm [] h' → s.toks ≤ s'.toks →
      wpAny (model PySem.Challenge.rw_tv0030_01.row.prog w) A (execs ((lawBody w.params).drop 11) (lawEnv w.params L q)) Q E s') :
    wpAny (model PySem.Challenge.rw_tv0030_01.row.prog w) A (execs ((lawBody w.params).drop 10) (lawEnv w.params L q)) Q E s := by
  have Wh := W.kp I.keep
  have e1 : h.IsCell (L + 7) (some (.ref l)) := c1 ▸ I.cell (Str.ofString "shown", L + 7) (by simp [lawOc])
  refine execs_up (wpAny_If (wpAny_isTrue_Compare1 (nC z e1 (by rfl) (listRange (n := 8) z hA.h Wh (by rfl) (by rfl) rfl (by decide) fun h₁ s₁ D ys zz z₁ k₁ nD eD pr => ?_))))
  obtain ⟨ys', ⟨n', el⟩, pr'⟩ := (I.kp k₁).keep.li hl
  have hs1 : ys.size = 8 := by rw [← Array.length_toList, ← pr.length]; rfl
  have hs2 : ys'.size = 8 := by rw [← Array.length_toList, ← pr'.length]; rfl
  refine SeqAt.RcNeAt.lists (e := fun _ => true) (items := ys') (items2 := ys) ⟨_, z₁.hp ▸ el, rfl, _, rfl⟩ ⟨_, z₁.hp ▸ eD, rfl, _, rfl⟩ (hs2.trans hs1.symm) hu (fun j h1 h2 => ?_) _ _ _ _ (wpAny_truthy_bool ?_)
  · obtain ⟨a, ha, ta, ea⟩ := Paired.get' pr' j ys'[j] (by simp [h1])
    obtain ⟨b, hb, tb, eb⟩ := Paired.get' pr j ys[j] (by simp [h2])
    rw [ha] at hb
    cases hb
    rw [ea, eb]
    have := SeqAt.EqAt.int_int (A := A.in1) (s := s₁) a ta a tb
    rw [beq_self_eq_true] at this
    exact this
  · rw [if_neg (by simp)]
    exact wpAny_execs_nil fun hup => hrest s₁ h₁ z₁ (I.kp k₁) hup
end
end Mine
end

section
open PySem PySem.Spec PySem.Calls PySem.W PyProof.Rows
set_option Elab.async false
namespace Mine
set_option maxRecDepth 100000
theorem Inn.offL {h₀ h : Heap} {L : Addr} {oc : List (Str × Addr)} {m cm : Mp} {led : List (Addr × Obj)} (x : Inn h₀ L oc m cm led h) {D : Addr} {ys : Array Value} (pl : h.PlainList D ys) : OffF L oc D := by
  obtain ⟨n, e⟩ := pl
  refine ⟨?_, ?_⟩
  · rintro rfl
    obtain ⟨o, es, ep, ho, hd, _⟩ := x.ns
    rw [e] at ho
    cases ho
    cases hd
  · rintro q hq rfl
    obtain ⟨o, ho, hd⟩ := x.cell q hq
    rw [e] at ho
    cases ho
    cases hd
section
variable {prog : Program} {w : World} {A : Around} {s : Shared} {env : Env}
/-- a list that the iterable makes -/
theorem srcD {α : Type} {iter : Expr} {F : α → Value → Prop} {as : List α} (hh : A.handled = none)
    (h : ∀ (E Q : Value → Shared → Prop), (∀ s₁ l ys, Gr s s₁ → s₁.heap.PlainList l ys → Paired F as ys.toList → Q (.ref l) s₁) → wpAny (model prog w) A (eval iter env) Q E s) :
    Src prog w A iter env s as.length (fun i v => ∃ a, as[i]? = some a ∧ F a v) := by
  refine ⟨fun E Q hQ => h _ _ fun s₁ l ys g pl pr => ?_⟩
  refine wpAny_pyIter_list pl.isList ?_
  have hlt := natlt (Heap.lt_size (pl.choose_spec))
  have hs : ys.size = as.length := by rw [← Array.length_toList]; exact pr.length.symm
  have Wk := Walks.list (prog := prog) (w := w) (A := A) hh s₁.heap.objs.size l (Nat.ne_of_lt hlt) ys
  rw [hs] at Wk
  refine hQ _ s₁.heap.objs.size [s₁.heap.objs.size, l] [s₁.heap.objs.size] _ (g.trans (.push _ _)) ⟨Wk.sub, Wk.frame, fun i s Q E hi st hQ => Wk.item i s Q E hi st fun v h' tk hv => hQ v h' tk (Paired.get' pr i v (by simpa using hv)), Wk.done, Wk.self⟩ ⟨⟨_, Heap.get?_push_size _ rfl, rfl, rfl⟩, (Kp.push _ _).list pl |>.isList⟩ ?_ ?_ ?_ ?_
  · intro b hb
    rw [Heap.size_push]
    simp only [List.mem_cons, List.not_mem_nil, or_false] at hb
    rcases hb with rfl | rfl
    · exact ltA (by omega)
    · exact ltA (by omega)
  · intro b hb o e
    rw [List.mem_singleton.mp hb] at e
    obtain ⟨o', e'⟩ := g.kp.live e
    exact absurd (Heap.lt_size e') (Nat.lt_irrefl _)
  · intro i h st b hb
    simp only [List.mem_cons, List.not_mem_nil, or_false] at hb
    rcases hb with rfl | rfl
    · exact isT_listiter st.1
    · obtain ⟨o, e, c, _⟩ := st.2; exact ⟨o, e, not_isT_cls c⟩
  · intro i h st
    obtain ⟨o, e, c, _⟩ := st.1
    exact ⟨o, _, e, c, by decide⟩
end
def restF (c : Int) : Int := (c + 524288).fmod 1048576 - 524288
theorem restF_bd (c : Int) : -524288 ≤ restF c ∧ restF c < 524288 := by
  unfold restF
  have h1 := Int.fmod_nonneg_of_pos (c + 524288) (b := 1048576) (by decide)
  have h2 := Int.fmod_lt_of_pos (c + 524288) (b := 1048576) (by decide)
  omega
theorem map_getD8 {α β : Type} (f : α → β) (d : α) : ∀ {l : List α}, l.length = 8 → (List.range 8).map (fun i => f (l.getD i d)) = l.map f
  | [_, _, _, _, _, _, _, _], _ => rfl
def highF (f : List Int) (a : Nat) : Int := ((List.range 8).map fun b => sg (a &&& b) * f.getD b 0).sum
def shrF (f : List Int) (ws : List Int) (d : Nat) (a : Nat) : Int := highF f a * (16 - 2 * weightF a ws) ^ d
section
variable {w : World} {mg mb : Mp} {A : Around} {s s₀ : Shared} {h h₀ : Heap} {Q : Flow → Shared → Prop} {E : Value → Shared → Prop} {L : Addr} {q : Str} {m cm : Mp}
set_option maxHeartbeats 8000000 in
theorem law_11 (z : At s₀ h s) (k0 : Kp s₀.heap h₀) (hA : Rm 1 A) (I : Inn h₀ L (lawOc L) m cm [] h) {l : Addr} {xs : List Int} (m1 : m (Str.ofString "cells") = some (.ref l)) (hl : LI h₀ l xs) (hlen : xs.length = 10)
    (hrest : ∀ s' h' h₁ D, At s₀ h' s' → Kp h₀ h₁ → Kp s₀.heap h₁ → Inn h₁ L (lawOc L) m (up cm (Str.ofString "first") (.ref D)) [] h' → LI h₁ D ((xs.take 8).map restF) → s.toks ≤ s'.toks →
      wpAny (model PySem.Challenge.rw_tv0030_01.row.prog w) A (execs ((lawBody w.params).drop 12) (lawEnv w.params L q)) Q E s') :
    wpAny (model PySem.Challenge.rw_tv0030_01.row.prog w) A (execs ((lawBody w.params).drop 11) (lawEnv w.params L q)) Q E s := by
  have h8 : (xs.take 8).length = 8 := by rw [List.length_take]; omega
  refine execs_up (wpAny_Assign_Name (cmp (n := (xs.take 8).length) (p := fun _ => true) (F := fun _ i y _ => IntV y (restF ((xs.take 8).getD i 0))) z (srcD (F := fun i y => IntV y i) hA.h fun E Q hq => sliceTo (b := 8) (nL (At.here s) (z.hp ▸ I.ns) m1 ⟨_, _, l, xs, At.here s, rfl, z.hp ▸ I.keep.li hl, by rw [hlen]; decide, fun D h₁ s₁ z₁ k₁ nD ⟨ys, pl, pr⟩ => hq s₁ D ys z₁.gr (z₁.hp ▸ pl) pr⟩))
    (by rw [h8]; decide) (fun h₀ C kh hC => turn_local ?tests ?elt) ?hF ?hQ (by rfl) (by decide) (by decide)))
  case tests => intro i v s m cm E hi hv hm x; exact tests_no (i := i)
  case hF => intro k k' i y h h' _ _ f; exact f
  case elt =>
    intro i v s m cm E hi ⟨c, hc, tv, hv⟩ hp hm x
    subst hv
    have zs := At.here s
    have er : (xs.take 8).getD i 0 = c := by rw [List.getD_eq_getElem?_getD, hc]; rfl
    rw [er]
    refine wpAny_BinOp (wpAny_BinOp (wpAny_BinOp (nL zs x.ns hm (wpAny_BinOp (cInt zs fun t₁ s₁ z₁ => cInt z₁ fun t₂ s₂ z₂ => powI z₂ (by decide) (by decide) (by decide) fun t₃ s₃ z₃ => addI z₃ fun t₄ s₄ z₄ => ?_)))))
    refine wpAny_BinOp (cInt z₄ fun t₅ s₅ z₅ => cInt z₅ fun t₆ s₆ z₆ => powI z₆ (by decide) (by decide) (by decide) fun t₇ s₇ z₇ => modI z₇ (by decide) fun t₈ s₈ z₈ => ?_)
    refine wpAny_BinOp (cInt z₈ fun t₉ s₉ z₉ => cInt z₉ fun ta sa za => powI za (by decide) (by decide) (by decide) fun tb sb zb => subI zb fun tc sc zc => ⟨⟨tc, ?_⟩, zc.gr⟩)
    rfl
  case hQ =>
    intro D k h₂ s₂ ys z₂ k₂ hD pl pr
    rw [h8, filt_all] at pr
    refine finC (c := L + 8) z₂ k0 (I.kp k₂) (by simp [lawOc]) (by rfl) fun h5 s5 h₁ z5 k1 k2 I5 hb hup => hrest s5 h5 h₁ D z5 k1 k2 I5 (hb.li (I.base hD) ⟨ys, pl, ?_⟩) hup
    have := Paired.map (F := fun i y => IntV y i) (fun i => restF ((xs.take 8).getD i 0)) pr
    rw [map_getD8 restF 0 h8] at this
    exact this
set_option maxHeartbeats 8000000 in
theorem law_12 (z : At s₀ h s) (k0 : Kp s₀.heap h₀) (W : Wd (Mine.hd.heap_39 w.params) mg mb h₀) (hA : Rm 2 A) (hs0 : 0 < s.toks) (I : Inn h₀ L (lawOc L) m cm [] h) {l lw : Addr} {f ws : List Int} {d : Nat} {t : Tok} (c1 : cm (Str.ofString "first") = some (.ref l)) (hl : LI h₀ l f) (hlen : f.length = 8)
    (c2 : cm (Str.ofString "weights") = some (.ref lw)) (hw : LI h₀ lw ws) (hws : ws.length = 3) (c3 : cm (Str.ofString "days") = some (.int d t)) (hS : Sh (shF ws)) (hB : ∀ x ∈ f, x.natAbs ≤ 2 ^ 19) (hd : 0 < d) (hd3 : d ≤ 3)
    (hrest : ∀ s' h' h₁ D, At s₀ h' s' → Kp h₀ h₁ → Kp s₀.heap h₁ → Inn h₁ L (lawOc L) m (up cm (Str.ofString "worth") (.ref D)) [] h' → LP h₁ D (scale d (daysF (shF ws) (f.map (7 * ·)) d)) → s.toks ≤ s'.toks →
      wpAny (model PySem.Challenge.rw_tv0030_01.row.prog w) A (execs ((lawBody w.params).drop 13) (lawEnv w.params L q)) Q E s') :
    wpAny (model PySem.Challenge.rw_tv0030_01.row.prog w) A (execs ((lawBody w.params).drop 12) (lawEnv w.params L q)) Q E s := by
  have Wh := W.kp I.keep
  have e1 : h.IsCell (L + 8) (some (.ref l)) := c1 ▸ I.cell (Str.ofString "first", L + 8) (by simp [lawOc])
  have e2 : h.IsCell (L + 2) (some (.ref lw)) := c2 ▸ I.cell (Str.ofString "weights", L + 2) (by simp [lawOc])
  have e3 : h.IsCell (L + 3) (some (.int d t)) := c3 ▸ I.cell (Str.ofString "days", L + 3) (by simp [lawOc])
  refine execs_up (wpAny_Assign_Name (cFp z Wh (by rfl) (by rfl) (wpAny_items_cons ?_)))
  refine cmp (n := f.length) (p := fun _ => true) (F := fun _ i y _ => IntV y (7 * f.getD i 0)) z (srcLI z hA.h (I.keep.li hl) fun E Q hq => nC z e1 (by rfl) hq) (by rw [hlen]; decide) (fun h₀ C kh hC => turn_local ?tests ?elt) ?hF ?hQ (by rfl) (by decide) (by decide)
  case tests => intro i v s m cm E hi hv hm x; exact tests_no (i := i)
  case hF => intro k k' i y h h' _ _ f; exact f
  case elt =>
    intro i v s m cm E hi ⟨tv, hv⟩ hp hm x
    subst hv
    have zs := At.here s
    exact wpAny_BinOp (cInt zs fun t₁ s₁ z₁ => nL z₁ x.ns hm (mulI z₁ (mul_small (by decide) (by decide)) fun t₂ s₂ z₂ => ⟨⟨t₂, rfl⟩, z₂.gr⟩))
  case hQ =>
    intro D k h₂ s₂ ys z₂ k₂ hD pl pr
    rw [hlen, filt_all] at pr
    have l7 : LI h₂ D (f.map (7 * ·)) := ⟨ys, pl, by
      have := Paired.map (F := fun i y => IntV y i) (fun i => 7 * f.getD i 0) pr
      rw [map_getD8 (7 * ·) 0 hlen] at this
      exact this⟩
    have I2 := I.kp k₂
    refine wpAny_items_cons (nC z₂ (k₂.cell e2) (by rfl) (wpAny_items_cons (nC z₂ (k₂.cell e3) (by rfl) (wpAny_items_nil fun hup2 => ⟨h₂, z₂, k₂, ?_⟩))))
    refine days_c z₂ (Wh.kp k₂) hA l7 (I2.keep.li hw) (by rw [List.length_map, hlen]) hws hS (fun x hx => ?_) hd hd3 (Nat.lt_of_lt_of_le hs0 hup2) fun h₃ s₃ D' z₃ k₃ lf => ?_
    · obtain ⟨y, hy, rfl⟩ := List.mem_map.mp hx
      have := hB y hy
      omega
    · have I3 := I2.kp k₃
      exact finC (c := L + 9) z₃ k0 I3 (by simp [lawOc]) (by rfl) fun h5 s5 h₁ z5 k1 k2 I5 hb hup => hrest s5 h5 h₁ D' z5 k1 k2 I5 (hb.lp (I3.offL lf.choose_spec.1) lf) hup
set_option maxHeartbeats 8000000 in
theorem law_13 (z : At s₀ h s) (k0 : Kp s₀.heap h₀) (W : Wd (Mine.hd.heap_39 w.params) mg mb h₀) (hA : Rm 1 A) (I : Inn h₀ L (lawOc L) m cm [] h) {l : Addr} {f : List Int} (c1 : cm (Str.ofString "first") = some (.ref l)) (hl : LI h₀ l f) (hlen : f.length = 8)
    (hrest : ∀ s' h' h₁ D, At s₀ h' s' → Kp h₀ h₁ → Kp s₀.heap h₁ → Inn h₁ L (lawOc L) m (up cm (Str.ofString "heights") (.ref D)) [] h' → LI h₁ D ((List.range 8).map (highF f)) → s.toks ≤ s'.toks →
      wpAny (model PySem.Challenge.rw_tv0030_01.row.prog w) A (execs ((lawBody w.params).drop 14) (lawEnv w.params L q)) Q E s') :
    wpAny (model PySem.Challenge.rw_tv0030_01.row.prog w) A (execs ((lawBody w.params).drop 13) (lawEnv w.params L q)) Q E s := by
  have Wh := W.kp I.keep
  have e1 : h.IsCell (L + 8) (some (.ref l)) := c1 ▸ I.cell (Str.ofString "first", L + 8) (by simp [lawOc])
  have hlh := I.keep.li hl
  refine execs_up (wpAny_Assign_Name (cmp (n := 8) (p := fun _ => true) (F := fun _ i y _ => IntV y (highF f i)) z (sRange z hA.h Wh (by rfl) rfl (by decide)) (by decide) (fun h₀ C kh hC => turn_cell (c := C + 1) ?tests ?elt (.head _) (by rfl)) ?hF ?hQ (by rfl) (by decide) (by decide)))
  case tests => intro i v s m cm E hi hv hm x; exact tests_no (i := i)
  case hF => intro k k' i y h h' _ _ f; exact f
  case elt =>
    intro i v s m cm E hi ⟨tv, hv⟩ hp hm x
    subst hv
    have zc := At.here s
    have ck := x.keep.cell (kh.cell e1)
    have li := x.keep.li (kh.li hlh)
    have Wc := (Wh.kp kh).kp x.keep
    have cs : s.heap.IsCell (C + 1) (some (.int i tv)) := hm ▸ x.cell (Str.ofString "some", C + 1) (.head _)
    refine cB zc Wc (by rfl) boot_sum (by decide) (wpAny_items_cons ?_)
    refine cmp (n := 8) (p := fun _ => true) (F := fun _ k y _ => IntV y (sg (i &&& k) * f.getD k 0)) zc (sRange zc hA.h Wc (by rfl) rfl (by decide)) (by decide) (fun h₀' C' kh' hC' => turn_local ?t2 ?e2) ?hF2 ?hQ2 (by rfl) (by decide) (by decide)
    case t2 => intro i v s m cm E hi hv hm x; exact tests_no (i := i)
    case hF2 => intro k k' i y h h' _ _ f; exact f
    case e2 =>
      intro j v s m cm E hj ⟨tj, hv⟩ hp hm x
      subst hv
      have zs := At.here s
      have Wx := (Wc.kp kh').kp x.keep
      refine wpAny_BinOp (cF zs Wx (by rfl) (by rfl) (wpAny_items_cons (nC zs (x.keep.cell (kh'.cell cs)) (by rfl) (wpAny_items_cons (nL zs x.ns hm (wpAny_items_nil ⟨_, zs, .refl _, ?_⟩))))))
      refine sign_c zs Wx hA hj fun h₁ s₁ t₁ z₁ k₁ => ?_
      refine sLI (nC z₁ (k₁.cell (x.keep.cell (kh'.cell ck))) (by rfl) (nL z₁ (k₁.ns x.ns) hm ⟨_, _, l, f, j, tj, z₁, rfl, rfl, k₁.li (x.keep.li (kh'.li li)), by omega, by omega, by omega, fun t₂ => ?_⟩))
      rw [Int.toNat_natCast]
      have := sg_bound (i &&& j)
      exact mulI z₁ (mul_small (by omega) (by omega)) fun t₃ s₃ z₃ => ⟨⟨t₃, rfl⟩, z₃.gr⟩
    case hQ2 =>
      intro D k h₂ s₂ ys z₂ k₂ hD pl pr
      rw [filt_all] at pr
      exact wpAny_items_nil (sumLI z₂ hA.h ⟨ys, pl, Paired.map (F := fun i y => IntV y i) (fun k => sg (i &&& k) * f.getD k 0) pr⟩ fun h₃ s₃ t' z₃ k₃ => ⟨⟨t', rfl⟩, z₃.gr⟩)
  case hQ =>
    intro D k h₂ s₂ ys z₂ k₂ hD pl pr
    rw [filt_all] at pr
    exact finC (c := L + 10) z₂ k0 (I.kp k₂) (by simp [lawOc]) (by rfl) fun h5 s5 h₁ z5 k1 k2 I5 hb hup => hrest s5 h5 h₁ D z5 k1 k2 I5 (hb.li (I.base hD) ⟨ys, pl, Paired.map (F := fun i y => IntV y i) (highF f) pr⟩) hup
set_option maxHeartbeats 8000000 in
theorem law_14 (z : At s₀ h s) (k0 : Kp s₀.heap h₀) (W : Wd (Mine.hd.heap_39 w.params) mg mb h₀) (hA : Rm 1 A) (I : Inn h₀ L (lawOc L) m cm [] h) {l lw : Addr} {f ws : List Int} {d : Nat} {t : Tok} (c1 : cm (Str.ofString "heights") = some (.ref l)) (hl : LI h₀ l ((List.range 8).map (highF f)))
    (c2 : cm (Str.ofString "weights") = some (.ref lw)) (hw : LI h₀ lw ws) (hws : ws.length = 3) (c3 : cm (Str.ofString "days") = some (.int d t)) (hd3 : d ≤ 3) (hB : ∀ a, a < 8 → (highF f a).natAbs ≤ 2 ^ 22) (hW : ∀ a, a < 8 → (weightF a ws).natAbs ≤ 16)
    (hrest : ∀ s' h' h₁ D, At s₀ h' s' → Kp h₀ h₁ → Kp s₀.heap h₁ → Inn h₁ L (lawOc L) m (up cm (Str.ofString "shrunk") (.ref D)) [] h' → LI h₁ D ((List.range 8).map (shrF f ws d)) → s.toks ≤ s'.toks →
      wpAny (model PySem.Challenge.rw_tv0030_01.row.prog w) A (execs ((lawBody w.params).drop 15) (lawEnv w.params L q)) Q E s') :
    wpAny (model PySem.Challenge.rw_tv0030_01.row.prog w) A (execs ((lawBody w.params).drop 14) (lawEnv w.params L q)) Q E s := by
  have Wh := W.kp I.keep
  have e1 : h.IsCell (L + 10) (some (.ref l)) := c1 ▸ I.cell (Str.ofString "heights", L + 10) (by simp [lawOc])
  have e2 : h.IsCell (L + 2) (some (.ref lw)) := c2 ▸ I.cell (Str.ofString "weights", L + 2) (by simp [lawOc])
  have e3 : h.IsCell (L + 3) (some (.int d t)) := c3 ▸ I.cell (Str.ofString "days", L + 3) (by simp [lawOc])
  have hlh := I.keep.li hl
  have hwh := I.keep.li hw
  refine execs_up (wpAny_Assign_Name (cmp (n := 8) (p := fun _ => true) (F := fun _ i y _ => IntV y (shrF f ws d i)) z (sRange z hA.h Wh (by rfl) rfl (by decide)) (by decide) (fun h₀ C kh hC => turn_local ?tests ?elt) ?hF ?hQ (by rfl) (by decide) (by decide)))
  case tests => intro i v s m cm E hi hv hm x; exact tests_no (i := i)
  case hF => intro k k' i y h h' _ _ f; exact f
  case elt =>
    intro i v s m cm E hi ⟨tv, hv⟩ hp hm x
    subst hv
    have zc := At.here s
    have ck := x.keep.cell (kh.cell e1)
    have cw := x.keep.cell (kh.cell e2)
    have cd := x.keep.cell (kh.cell e3)
    have li := x.keep.li (kh.li hlh)
    have lw' := x.keep.li (kh.li hwh)
    have Wc := (Wh.kp kh).kp x.keep
    have hb1 := hB i hi
    have hb2 := hW i hi
    have eg : ((List.range 8).map (highF f)).getD i 0 = highF f i := by rw [List.getD_eq_getElem?_getD, List.getElem?_map, List.getElem?_range hi]; rfl
    refine wpAny_BinOp (sLI (nC zc ck (by rfl) (nL zc x.ns hm ⟨_, _, l, _, i, tv, zc, rfl, rfl, li, by omega, by rw [List.length_map, List.length_range]; omega, by rw [List.length_map, List.length_range]; omega, fun t₂ => ?_⟩)))
    rw [Int.toNat_natCast, eg]
    refine wpAny_BinOp (wpAny_BinOp (cInt zc fun t₃ s₃ z₃ => wpAny_BinOp (cInt z₃ fun t₄ s₄ z₄ => cF z₄ Wc (by rfl) (by rfl) (wpAny_items_cons (nL z₄ x.ns hm (wpAny_items_cons (nC z₄ cw (by rfl) (wpAny_items_nil ⟨_, z₄, .refl _, ?_⟩))))))))
    refine weight_c z₄ Wc hA lw' hws fun h₅ s₅ t₅ z₅ k₅ => mulI z₅ (mul_small (by decide) (by decide)) fun t₆ s₆ z₆ => subI z₆ fun t₇ s₇ z₇ => nC z₇ (k₅.cell cd) (by rfl) (powI z₇ (by omega) (by omega) (by omega) fun t₈ s₈ z₈ => mulI z₈ (mul_small (by omega) (by omega)) fun t₉ s₉ z₉ => ⟨⟨t₉, ?_⟩, z₉.gr⟩)
    rw [Int.toNat_natCast]
    rfl
  case hQ =>
    intro D k h₂ s₂ ys z₂ k₂ hD pl pr
    rw [filt_all] at pr
    exact finC (c := L + 11) z₂ k0 (I.kp k₂) (by simp [lawOc]) (by rfl) fun h5 s5 h₁ z5 k1 k2 I5 hb hup => hrest s5 h5 h₁ D z5 k1 k2 I5 (hb.li (I.base hD) ⟨ys, pl, Paired.map (F := fun i y => IntV y i) (shrF f ws d) pr⟩) hup
end
end Mine
end

section
open PySem PySem.Spec PySem.Calls PySem.W PyProof.Rows
set_option Elab.async false
namespace Mine
set_option maxRecDepth 100000
/-- every leaf is well, every question is about two different places -/
def Lv {α : Type} (n : Nat) (P : α → Prop) : KasT α → Prop
  | .ret a => P a
  | .ask i j k => i < n ∧ j < n ∧ i ≠ j ∧ ∀ b, Lv n P (k b)
theorem Lv.bind {α β : Type} {n : Nat} {P : α → Prop} {R : β → Prop} {f : α → KasT β} : ∀ {t : KasT α}, Lv n P t → (∀ a, P a → Lv n R (f a)) → Lv n R (t.bind f)
  | .ret a, h, hf => hf a h
  | .ask i j k, h, hf => ⟨h.1, h.2.1, h.2.2.1, fun b => Lv.bind (h.2.2.2 b) hf⟩
theorem Lv.ite {α : Type} {n : Nat} {P : α → Prop} {c : Prop} [Decidable c] {t u : KasT α} (h1 : c → Lv n P t) (h2 : ¬ c → Lv n P u) : Lv n P (if c then t else u) := by
  split
  · exact h1 ‹_›
  · exact h2 ‹_›
theorem Lv.run {α : Type} {n : Nat} {P : α → Prop} {cmp : Nat → Nat → (Bool → Shared → Prop) → Shared → Prop} {J : Shared → Prop} (hc : ∀ i j C s, i < n → j < n → i ≠ j → J s → (∀ b s', J s' → C b s') → cmp i j C s) {Q : α → Shared → Prop} :
    ∀ {t : KasT α} {s : Shared}, Lv n P t → J s → (∀ a s', P a → J s' → Q a s') → t.kasWp cmp Q s
  | .ret a, s, h, hj, hq => hq a s h hj
  | .ask i j k, s, h, hj, hq => hc i j _ s h.1 h.2.1 h.2.2.1 hj fun b s' hj' => Lv.run hc (h.2.2.2 b) hj' hq
def Pm (n : Nat) (p : Array Nat) : Prop := p.toList.Perm (List.range n)
theorem Pm.size {n : Nat} {p : Array Nat} (h : Pm n p) : p.size = n := by have := h.length_eq; simpa using this
theorem Pm.at {n : Nat} {p : Array Nat} (h : Pm n p) {i : Nat} (hi : i < n) : p.getD i 0 < n := by
  have hz := h.size
  have e : p.getD i 0 = p[i] := by simp [Array.getD, hz, hi]
  rw [e]
  have : p[i] ∈ p.toList := by simp
  simpa using h.mem_iff.mp this
theorem Pm.ne {n : Nat} {p : Array Nat} (h : Pm n p) {i j : Nat} (hi : i < n) (hj : j < n) (hij : i ≠ j) : p.getD i 0 ≠ p.getD j 0 := by
  have hz := h.size
  have e : p.getD i 0 = p[i] := by simp [Array.getD, hz, hi]
  have e' : p.getD j 0 = p[j] := by simp [Array.getD, hz, hj]
  rw [e, e']
  have nd : p.toList.Nodup := h.nodup_iff.mpr List.nodup_range
  intro h2
  exact hij ((List.getElem_inj (h₀ := by simpa using hz ▸ hi) (h₁ := by simpa using hz ▸ hj) nd).mp (by simpa using h2))
theorem Pm.rev {n : Nat} {p : Array Nat} (h : Pm n p) (i j : Nat) : Pm n (kas_rev p i j) := (Array.perm_iff_toList_perm.mp (mirror_perm p i j _)).trans h
theorem Pm.bub {n : Nat} {p : Array Nat} (h : Pm n p) (i j : Nat) : Pm n (bubble p i j) := (Array.perm_iff_toList_perm.mp (bubble_perm p i j)).trans h
theorem Lv.mono {α : Type} {n : Nat} {P R : α → Prop} (h : ∀ a, P a → R a) : ∀ {t : KasT α}, Lv n P t → Lv n R t
  | .ret _, x => h _ x
  | .ask _ _ _, x => ⟨x.1, x.2.1, x.2.2.1, fun b => Lv.mono h (x.2.2.2 b)⟩
theorem lv_asc {n : Nat} {p : Array Nat} (h : Pm n p) : ∀ (f a : Nat), 1 ≤ a → a + f ≤ n → Lv n (fun m => a ≤ m ∧ m ≤ a + f) (kas_asc p f a)
  | 0, a, h1, h2 => ⟨Nat.le_refl _, Nat.le_refl _⟩
  | f + 1, a, h1, h2 => ⟨h.at (by omega), h.at (by omega), h.ne (by omega) (by omega) (by omega), fun b => .ite (fun _ => ⟨Nat.le_refl _, by omega⟩) fun _ =>
      Lv.mono (fun m hm => ⟨by omega, by omega⟩) (lv_asc h f (a + 1) (by omega) (by omega))⟩
theorem lv_desc {n : Nat} : ∀ (f : Nat) (p : Array Nat) (a q : Nat), Pm n p → 1 ≤ a → a + f ≤ n → Lv n (fun r => Pm n r.1 ∧ a ≤ r.2.1 ∧ r.2.1 ≤ a + f) (kas_desc f p a q)
  | 0, p, a, q, h, h1, h2 => ⟨h, Nat.le_refl a, Nat.le_refl a⟩
  | f + 1, p, a, q, h, h1, h2 => ⟨h.at (by omega), h.at (by omega), h.ne (by omega) (by omega) (by omega), fun b => .ite
      (fun _ => .ite (fun _ => Lv.mono (fun m hm => ⟨hm.1, by omega, by omega⟩) (lv_desc f _ (a + 1) 0 (h.rev _ _) (by omega) (by omega)))
        fun _ => Lv.mono (fun m hm => ⟨hm.1, by omega, by omega⟩) (lv_desc f _ (a + 1) 0 h (by omega) (by omega)))
      fun _ => ⟨h.at (by omega), h.at (by omega), h.ne (by omega) (by omega) (by omega), fun d => .ite (fun _ => ⟨h, Nat.le_refl a, Nat.le_add_right a _⟩)
        fun _ => Lv.mono (fun m hm => ⟨hm.1, by omega, by omega⟩) (lv_desc f _ (a + 1) (q + 1) h (by omega) (by omega))⟩⟩
theorem lv_tail3 {n a nrem : Nat} {p : Array Nat} (h : Pm n p) (h1 : 1 ≤ a) (h2 : a ≤ nrem) (h3 : nrem ≤ n) : Lv n (fun r => Pm n r.2) (kas_tail3 a nrem p) :=
  (lv_asc (h.rev 0 a) (nrem - a) a h1 (by omega)).bind fun _ _ => h.rev 0 a
theorem lv_descPart {n a nrem : Nat} {p : Array Nat} (h : Pm n p) (h1 : 1 ≤ a) (h2 : a + 1 ≤ nrem) (h3 : nrem ≤ n) : Lv n (fun r => Pm n r.2) (kas_descPart a nrem p) :=
  (lv_desc (nrem - (a + 1)) p (a + 1) 0 h (by omega) (by omega)).bind fun ⟨p', n', q'⟩ hr => by
    have h4 : a + 1 ≤ n' := hr.2.1
    have h5 : n' ≤ a + 1 + (nrem - (a + 1)) := hr.2.2
    exact .ite (fun _ => lv_tail3 (Pm.rev hr.1 _ _) (by show 1 ≤ n'; omega) (by show n' ≤ nrem; omega) h3) fun _ => lv_tail3 hr.1 (by show 1 ≤ n'; omega) (by show n' ≤ nrem; omega) h3
theorem lv_count {n nrem : Nat} {p : Array Nat} (h : Pm n p) (h1 : 1 ≤ nrem) (h3 : nrem ≤ n) : Lv n (fun r => Pm n r.2) (kas_count nrem p) :=
  (lv_asc h (nrem - 1) 1 (Nat.le_refl _) (by omega)).bind fun a ha => .ite (fun _ => h) fun hne => by
    have hne' : a ≠ nrem := by simpa using hne
    exact .ite (fun h2 => ⟨h.at (by omega), h.at (by omega), h.ne (by omega) (by omega) (by omega), fun c => .ite (fun _ => h) fun _ => lv_descPart (h.rev _ _) (by omega) (by omega) h3⟩) fun _ => lv_descPart h (by omega) (by omega) h3
theorem lv_place {n k : Nat} {p : Array Nat} (h : Pm n p) (hk : k < n) : ∀ (f l r : Nat), r ≤ k → Lv n (fun _ => True) (kas_place p k f l r)
  | 0, _, _, _ => trivial
  | f + 1, l, r, hr => .ite (fun _ => trivial) fun hlr => ⟨h.at hk, h.at (by omega), h.ne hk (by omega) (by omega), fun c => .ite (fun _ => lv_place h hk f _ _ (by omega)) fun _ => lv_place h hk f _ _ hr⟩
theorem lv_bin {n : Nat} : ∀ (f : Nat) (p : Array Nat) (k : Nat), Pm n p → k + f ≤ n → Lv n (fun r => Pm n r) (kas_bin f p k)
  | 0, p, _, h, _ => h
  | f + 1, p, k, h, hf => (lv_place h (by omega) k 0 k (Nat.le_refl _)).bind fun l _ => lv_bin f _ (k + 1) (h.bub _ _) (by omega)
theorem lv_sort {n : Nat} (h2 : 2 ≤ n) : Lv n (fun r => Pm n r) (kas_sort n) :=
  (lv_count (n := n) (nrem := n) (p := List.toArray (List.range n)) (.refl _) (by omega) (Nat.le_refl _)).bind fun r hr => .ite (fun hlt => lv_bin _ _ _ hr (by omega)) fun _ => hr
/-- all that stands, but the thing at L -/
def allOf (h : Heap) (L : Addr) : List (Addr × Obj) := (List.range h.objs.size).filterMap fun b => if b = L then none else (h.get? b).map fun o => (b, o)
theorem allOf_mem {h : Heap} {L b : Addr} {o : Obj} : (b, o) ∈ allOf h L ↔ h.get? b = some o ∧ b ≠ L := by
  unfold allOf
  rw [List.mem_filterMap]
  constructor
  · rintro ⟨c, hc, e⟩
    split at e
    · cases e
    · rename_i hne
      cases hg : h.get? c with
      | none => rw [hg] at e; cases e
      | some o' =>
        rw [hg] at e
        cases e
        exact ⟨hg, hne⟩
  · rintro ⟨e, hne⟩
    refine ⟨b, List.mem_range.mpr (Heap.lt_size e), ?_⟩
    rw [if_neg hne, e]
    rfl
abbrev noHeap : Heap := { objs := #[] }
theorem noHeap_get (b : Addr) : noHeap.get? b = none := by
  cases e : noHeap.get? b with
  | none => rfl
  | some o => exact absurd (Heap.lt_size e) (Nat.not_lt_zero _)
section
variable {prog : Program} {w : World} {A : Around} {E : Value → Shared → Prop} {s s₀ : Shared} {h h₀ : Heap} {L : Addr} {oc : List (Str × Addr)} {m cm : Mp} {Q : Value → Shared → Prop}
/-- the rows lead, no two alike -/
def LeadS (h : Heap) (v : Value) (x : Str) : Prop := ∃ T t r, v = .ref T ∧ h.get? T = some (tup (List.toArray (.str x t :: r)))
theorem leads_tups {h : Heap} : ∀ {xs : List Str} {vs : List Value}, Paired (fun x v => LeadS h v x) xs vs → ∃ fs, KatTups h vs fs ∧ fs.length = vs.length ∧ ∀ v ∈ fs, ∃ x t, v = .str x t
  | _, _, .nil => ⟨[], trivial, rfl, fun _ h => nomatch h⟩
  | _, _, .cons (a := x) ⟨T, t, r, e, g⟩ p => by
    obtain ⟨fs, k, hl, hs⟩ := leads_tups p
    subst e
    refine ⟨.str x t :: fs, KatTups.cons g rfl rfl (by simp) k, by simp [hl], fun v hv => ?_⟩
    rcases List.mem_cons.mp hv with rfl | hv
    · exact ⟨_, _, rfl⟩
    · exact hs v hv
theorem lead_at {h : Heap} {xs : List Str} {vs : List Value} (hv : Paired (fun x v => LeadS h v x) xs vs) {i : Nat} (hi : i < vs.length) :
    ∃ x T t r, vs.getD i Value.none = .ref T ∧ h.get? T = some (tup (List.toArray (.str x t :: r))) ∧ xs[i]? = some x := by
  obtain ⟨x, hx, T, t, r, e, g⟩ := Paired.get' hv i vs[i] (by simp [hi])
  exact ⟨x, T, t, r, by rw [List.getD_eq_getElem?_getD, List.getElem?_eq_getElem hi]; exact e, g, hx⟩
theorem sorted_c {l : Addr} {vs : List Value} {xs : List Str} (z : At s₀ h s) (k0 : Kp s₀.heap h₀) (I : Inn h₀ L oc m cm [] h) (pl : h.PlainList l vs.toArray) (hv : Paired (fun x v => LeadS h v x) xs vs) (h2 : 2 ≤ vs.length) (h64 : vs.length < 64) (hd : xs.Nodup)
    (hQ : ∀ D (vs' : List Value) h' s', At s₀ h' s' → Inn h₀ L oc m cm [] h' → (∀ o, h.get? D ≠ some o) → h'.PlainList D vs'.toArray → vs'.Perm vs → (∀ b o, b ≠ L → h.get? b = some o → h'.get? b = some o) → Q (.ref D) s') :
    wpAny (model prog w) A (call (.builtin "sorted") [.ref l]) Q E s := by
  have hz := z.hp
  subst hz
  obtain ⟨fs, kt, hfl, hfs⟩ := leads_tups hv
  have hxl : xs.length = vs.length := hv.length
  refine kat_sorted (h₀ := noHeap) (L := L) (m := m) (news := allOf s.heap L) (vs := vs) ⟨I.ns, (fun b o e => nomatch (noHeap_get b).symm.trans e), Nat.zero_le _⟩ (fun p hp => ⟨(allOf_mem.mp hp).1, (allOf_mem.mp hp).2, noHeap_get _⟩) pl.isList h2 h64 fun D e1 h' F N hD => ?_
  have lL : L < s.heap.objs.size := by obtain ⟨o, _, _, e, _⟩ := I.ns; exact Heap.lt_size e
  have tupL : ∀ {T : Addr} {ys : Array Value}, s.heap.get? T = some (tup ys) → T ≠ L := by
    rintro T ys e rfl
    obtain ⟨o, es, ep, ho, hd, _⟩ := I.ns
    rw [e] at ho
    cases ho
    cases hd
  have keep1 : ∀ b o, b ≠ L → s.heap.get? b = some o → h'.get? b = some o := fun b o ne e => (N (b, o) (.tail _ (allOf_mem.mpr ⟨e, ne⟩))).1
  have kt_keep : ∀ {vs fs : List Value}, (∃ xs, Paired (fun x v => LeadS s.heap v x) xs vs) → KatTups s.heap vs fs → KatTups h' vs fs := by
    intro vs
    induction vs with
    | nil => intro fs _ k; cases fs with | nil => trivial | cons _ _ => exact k.elim
    | cons v vs ih =>
      intro fs ⟨xs, p⟩ k
      cases p with
      | cons hx p =>
        cases fs with
        | nil => exact k.elim
        | cons f fs =>
          obtain ⟨T, t, r, e, g⟩ := hx
          obtain ⟨⟨a, o, xs', n, e', g', k3⟩, k2⟩ := k
          subst e
          cases e'
          exact ⟨⟨_, o, xs', n, rfl, keep1 _ _ (tupL g) g', k3⟩, ih ⟨_, p⟩ k2⟩
  refine kat_kind (T := .type "str") (fs := fs) (kt_keep ⟨_, hv⟩ kt) (by omega) (fun v hv => ?_) (by decide) ?_
  · obtain ⟨x, t, rfl⟩ := hfs v hv
    exact Looks.of_pure rfl
  rw [show (Value.type "str" != Value.type "tuple") = true from by decide]
  refine Lv.run (J := fun s' => s' = { s with heap := h' }) (fun i j C s' hi hj hij hJ hC => ?_) (lv_sort h2) rfl fun p s' hp hJ => ?_
  · subst hJ
    unfold kas_ask
    obtain ⟨xi, Ti, ti, ri, ei, gi, nxi⟩ := lead_at hv hi
    obtain ⟨xj, Tj, tj, rj, ej, gj, nxj⟩ := lead_at hv hj
    rw [ei, ej]
    have hne : (xi == xj) = false := by
      rw [beq_eq_false_iff_ne]
      rintro rfl
      obtain ⟨h1, e1⟩ := List.getElem?_eq_some_iff.mp nxi
      obtain ⟨h2, e2⟩ := List.getElem?_eq_some_iff.mp nxj
      exact hij ((List.getElem_inj hd).mp (e1.trans e2.symm))
    refine kat_lt (s := { s with heap := h' }) (keep1 _ _ (tupL gi) gi) rfl (keep1 _ _ (tupL gj) gj) rfl (kat_cons ?_)
    have := SeqAt.EqAt.str_str (A := A.in1.in1) (s := { s with heap := h' }) xi ti xj tj
    rw [hne] at this
    refine this _ _ _ _ (kat_no ?_)
    exact oneLt_str (hC _ _ rfl)
  · subst hJ
    refine KasFin.intro F N (.head fun q hq => Nat.ne_of_lt (hD q hq)) fun h'' c F'' N'' => ?_
    have keep2 : ∀ b o, b ≠ L → s.heap.get? b = some o → h''.get? b = some o := fun b o ne e => (N'' (b, o) (.tail _ (allOf_mem.mpr ⟨e, ne⟩))).1
    have hDn := N'' (D, listOf (List.toArray (p.toList.map fun i => vs.getD i Value.none)) c) (.head _)
    have I2 : Inn h₀ L oc m cm [] h'' := by
      refine ⟨F''.ns, fun b o e => ?_, I.above, fun q hq => ?_, I.cnew, I.apart, I.names, (fun _ hp => nomatch hp), .nil⟩
      · have ne : b ≠ L := by rintro rfl; exact I.above o e
        rcases I.keep b o e with e1 | ⟨ps, more, rfl, e1⟩
        · exact .inl (keep2 _ _ ne e1)
        · exact .inr ⟨ps, more, rfl, keep2 _ _ ne e1⟩
      · obtain ⟨o, e, d⟩ := I.cell q hq
        exact ⟨o, keep2 _ _ (I.cnew q hq).1 e, d⟩
    refine hQ D _ h'' _ (z.in (.heap1 s h'') rfl k0 I2) I2 (fun o e => ?_) ⟨c, hDn.1⟩ ?_ keep2
    · exact Nat.lt_irrefl _ (hD (D, o) (allOf_mem.mpr ⟨e, hDn.2.1⟩))
    · have h3 := List.Perm.map (fun i => vs.getD i Value.none) hp
      refine h3.trans (.of_eq ?_)
      refine List.ext_getElem (by simp) fun i h1 h2 => ?_
      rw [List.getElem_map, List.getElem_range, List.getD_eq_getElem?_getD, List.getElem?_eq_getElem h2]
      rfl
end
end Mine
end

section
open PySem PySem.Spec PySem.Calls PySem.W PyProof.Rows
set_option Elab.async false
namespace Mine
set_option maxRecDepth 100000
section
variable {prog : Program} {w : World} {A : Around} {E : Value → Shared → Prop} {s : Shared} {env : Env} {ve se : Expr} {pos : Pos} {Q : Value → Shared → Prop}
/-- an item of a list, by its place -/
theorem sP {α : Type} {F : α → Value → Prop} (q : wpAny (model prog w) A (eval ve env) (fun o s₁ => wpAny (model prog w) A (eval se env) (fun i s₂ => ∃ s₀ h l as ys k t a, At s₀ h s₂ ∧ o = .ref l ∧ i = .int k t ∧ h.PlainList l ys ∧ Paired F as ys.toList ∧ 0 ≤ k ∧ k < 2 ^ 63 ∧ as[k.toNat]? = some a ∧ ∀ v, F a v → Q v s₂) E s₁) E s)
    (hs : ∀ o i, subscripted se false o i = operate [o, i] (getItem o i) := by intro _ _; rfl) : wpAny (model prog w) A (eval (.Subscript ve se pos) env) Q E s := by
  refine sub_list (wpAny_mono q (fun o s₁ h₁ => wpAny_mono h₁ (fun i s₂ h₂ => ?_) fun _ _ x => x) fun _ _ x => x) hs
  obtain ⟨s₀, h, l, as, ys, k, t, a, z, rfl, rfl, pl, pr, h0, hlt, ha, hq⟩ := h₂
  obtain ⟨v, hv, fv⟩ := Paired.get pr _ _ ha
  exact ⟨l, ys, k, t, v, rfl, rfl, z.hp ▸ pl, h0, hlt, by simpa using hv, hq v fv⟩
end
theorem Inn.offS {h₀ h : Heap} {L : Addr} {oc : List (Str × Addr)} {m cm : Mp} {led : List (Addr × Obj)} (x : Inn h₀ L oc m cm led h) {D : Addr} {o : Obj} {ys : Array Value} {n : Nat} (e : h.get? D = some o) (d : o.data = .seq ys n) : OffF L oc D := by
  refine ⟨?_, ?_⟩
  · rintro rfl
    obtain ⟨o', es, ep, ho, hd, _⟩ := x.ns
    rw [e] at ho
    cases ho
    rw [d] at hd
    cases hd
  · rintro q hq rfl
    obtain ⟨o', ho, hd⟩ := x.cell q hq
    rw [e] at ho
    cases ho
    rw [d] at hd
    cases hd
section
variable {prog : Program} {w : World} {A : Around} {s : Shared} {env cenv : Env} {C : Addr} {oc : List (Str × Addr)} {h₀ : Heap} {x y u : Str} {px py pu pos : Pos} {kk : Nat} {ifs : List Expr} {el : Expr} {n : Nat} {P : Nat → Value → Prop} {p : Nat → Bool} {F : Nat → Nat → Value → Heap → Prop} {tk0 : Nat}
theorem turn_tup3 (G : Nat → Value → Value → Value → Prop) (hh : A.handled = none) (hP : ∀ i v, P i v → ∃ T a b c, v = .ref T ∧ h₀.get? T = some (tup (List.toArray [a, b, c])) ∧ G i a b c)
    (tests : ∀ i (s : Shared) m cm E a b c, i < n → G i a b c → m x = some a → m y = some b → m u = some c → Inn h₀ C oc m cm [] s.heap →
      wpAny (model prog w) A (forIn ifs true fun c r => if r = true then do let ok ← isTrue c cenv (eval c cenv); pure (ForInStep.yield ok) else pure (ForInStep.yield r)) (fun ok s' => ok = p i ∧ Gr s s') E s)
    (elt : ∀ i (s : Shared) m cm E a b c, i < n → G i a b c → p i = true → m x = some a → m y = some b → m u = some c → Inn h₀ C oc m cm [] s.heap →
      wpAny (model prog w) A (eval el cenv) (fun y s' => F s.heap.objs.size i y s'.heap ∧ Gr s s') E s)
    (hxy : (x == y) = false := by decide) (hxu : (x == u) = false := by decide) (hyu : (y == u) = false := by decide)
    (hC : cenv.locals = C := by rfl) (hk : cenv.scope.kind = .function := by rfl) (hx : cenv.kindOf x = some .local := by rfl) (hy : cenv.kindOf y = some .local := by rfl) (hu : cenv.kindOf u = some .local := by rfl) :
    Turn prog w A cenv C oc h₀ tk0 (.Tuple [.Name x px, .Name y py, .Name u pu] kk pos) ifs el n P p F (fun i _ m _ => ∃ a b c, G i a b c ∧ m x = some a ∧ m y = some b ∧ m u = some c) where
  assign := fun i v s m cm E Q hi hv I hQ => by
    subst hC
    obtain ⟨T, a, b, c, rfl, e, g⟩ := hP i v hv
    refine assign3 hh I ⟨_, I.keep.get e (not_isT_cls rfl), rfl, _, rfl⟩ (fun s' sm I' hk' => hQ s' _ _ sm I' (fun b o nb _ e => hk' b o nb e) ⟨a, b, c, g, ?_, ?_, ?_⟩) hk hx hy hu
    · exact (up_ne hxu).trans ((up_ne hxy).trans up_eq)
    · exact (up_ne hyu).trans up_eq
    · exact up_eq
  tests := fun i v s m cm E hi _ ⟨a, b, c, g, h1, h2, h3⟩ I => tests i s m cm E a b c hi g h1 h2 h3 I
  elt := fun i v s m cm E hi _ hp ⟨a, b, c, g, h1, h2, h3⟩ I _ => elt i s m cm E a b c hi g hp h1 h2 h3 I
end
def backF (sh : Nat → Int) (a : Nat) : Int := ((List.range 8).map fun k => sg (k &&& a) * sh k).sum
def dueF (sh : Nat → Int) (d : Nat) (a : Nat) : Int := 7 * backF sh a * 2 ^ (15 - 4 * d)
def TupAt (h : Heap) (rows : List Str) (cs : List Int) (i : Nat) (v : Value) : Prop := ∃ T t u x, v = .ref T ∧ h.get? T = some (tup (List.toArray [.str (rows.getD i default) t, .int i u, x])) ∧ FltV x (cs.getD i 0)
def TL (h : Heap) (D : Addr) (rows : List Str) (cs : List Int) (is : List Nat) : Prop := ∃ ys, h.PlainList D ys ∧ Paired (fun i v => TupAt h rows cs i v) is ys.toList
theorem Kp.tupAt {h h' : Heap} (k : Kp h h') {rows : List Str} {cs : List Int} {i : Nat} {v : Value} (x : TupAt h rows cs i v) : TupAt h' rows cs i v :=
  let ⟨T, t, u, x, e, g, f⟩ := x; ⟨T, t, u, x, e, k.get g (not_isT_cls rfl), f⟩
theorem Kp.tl {h h' : Heap} (k : Kp h h') {D : Addr} {rows : List Str} {cs : List Int} {is : List Nat} (x : TL h D rows cs is) : TL h' D rows cs is :=
  let ⟨ys, a, b⟩ := x; ⟨ys, k.list a, Paired.imp (fun _ _ h => k.tupAt h) b⟩
theorem Paired.perm {α β : Type} {F : α → β → Prop} {l₂ l₂' : List β} (hp : l₂'.Perm l₂) : ∀ {l₁ : List α}, Paired F l₁ l₂ → ∃ l₁', l₁'.Perm l₁ ∧ Paired F l₁' l₂' := by
  replace hp := hp.symm
  induction hp with
  | nil => intro l₁ h; cases h; exact ⟨[], .nil, .nil⟩
  | cons x _ ih =>
    intro l₁ h
    cases h with
    | cons hx t =>
      obtain ⟨l', p, q⟩ := ih t
      exact ⟨_ :: l', p.cons _, .cons hx q⟩
  | swap x y l =>
    intro l₁ h
    cases h with
    | cons h1 t =>
      cases t with
      | cons h2 t => exact ⟨_ :: _ :: _, .swap .., .cons h2 (.cons h1 t)⟩
  | trans _ _ ih1 ih2 =>
    intro l₁ h
    obtain ⟨l', p, q⟩ := ih1 h
    obtain ⟨l'', p', q'⟩ := ih2 q
    exact ⟨l'', p'.trans p, q'⟩
theorem boot_sorted : bootBuiltins "sorted" = some (.builtin "sorted") := by decide +kernel
section
variable {w : World} {mg mb : Mp} {A : Around} {s s₀ : Shared} {h h₀ : Heap} {Q : Flow → Shared → Prop} {E : Value → Shared → Prop} {L : Addr} {q : Str} {m cm : Mp}
set_option maxHeartbeats 8000000 in
theorem law_15 (z : At s₀ h s) (k0 : Kp s₀.heap h₀) (W : Wd (Mine.hd.heap_39 w.params) mg mb h₀) (hA : Rm 1 A) (hs0 : 0 < s.toks) (I : Inn h₀ L (lawOc L) m cm [] h) {l : Addr} {sh : Nat → Int} {d : Nat} {t : Tok} (c1 : cm (Str.ofString "shrunk") = some (.ref l)) (hl : LI h₀ l ((List.range 8).map sh))
    (c3 : cm (Str.ofString "days") = some (.int d t)) (hd0 : 0 < d) (hd3 : d ≤ 3) (hb : ∀ a, a < 8 → (dueF sh d a).natAbs < 2 ^ 53)
    (hrest : ∀ s' h' h₁ D, At s₀ h' s' → Kp h₀ h₁ → Kp s₀.heap h₁ → Inn h₁ L (lawOc L) (up m (Str.ofString "due") (.ref D)) cm [] h' → LP h₁ D ((List.range 8).map (dueF sh d)) → s.toks ≤ s'.toks →
      wpAny (model PySem.Challenge.rw_tv0030_01.row.prog w) A (execs ((lawBody w.params).drop 16) (lawEnv w.params L q)) Q E s') :
    wpAny (model PySem.Challenge.rw_tv0030_01.row.prog w) A (execs ((lawBody w.params).drop 15) (lawEnv w.params L q)) Q E s := by
  have hz := z.hp
  subst hz
  have Wh := W.kp I.keep
  have e1 : s.heap.IsCell (L + 11) (some (.ref l)) := c1 ▸ I.cell (Str.ofString "shrunk", L + 11) (by simp [lawOc])
  have e3 : s.heap.IsCell (L + 3) (some (.int d t)) := c3 ▸ I.cell (Str.ofString "days", L + 3) (by simp [lawOc])
  have hlh := I.keep.li hl
  refine execs_up (comp_assign (n := 8) (p := fun _ => true) (F := fun _ i y _ => FltP y (dueF sh d i)) I (sRange z hA.h Wh (by rfl) rfl (by decide)) (by decide) (fun h₀ C kh hC => turn_cellP (c := C + 1) ?tests ?elt (.head _) (by rfl)) ?hF ?hQ (by rfl) (by rfl) (by decide) (by decide))
  case tests => intro i v s m cm E hi hv hm x; exact tests_no (i := i)
  case hF => intro k k' i y h h' _ _ f; exact f
  case elt =>
    intro i v s m cm E hi ⟨tv, hv⟩ hp hm x hup1
    subst hv
    have zc := At.here s
    have ck := x.keep.cell (kh.cell e1)
    have cd := x.keep.cell (kh.cell e3)
    have li := x.keep.li (kh.li hlh)
    have Wc := (Wh.kp kh).kp x.keep
    have cs : s.heap.IsCell (C + 1) (some (.int i tv)) := hm ▸ x.cell (Str.ofString "at", C + 1) (.head _)
    refine BinOpP (wpAny_BinOp (cInt zc fun t₁ s₁ z₁ => cB z₁ Wc (by rfl) boot_sum (by decide) (wpAny_items_cons ?_)))
    refine cmp (n := 8) (p := fun _ => true) (F := fun _ k y _ => IntV y (sg (k &&& i) * sh k)) z₁ (sRange z₁ hA.h Wc (by rfl) rfl (by decide)) (by decide) (fun h₀' C' kh' hC' => turn_local ?t2 ?e2) ?hF2 ?hQ2 (by rfl) (by decide) (by decide)
    case t2 => intro i v s m cm E hi hv hm x; exact tests_no (i := i)
    case hF2 => intro k k' i y h h' _ _ f; exact f
    case e2 =>
      intro j v s m cm E hj ⟨tj, hv⟩ hp hm x
      subst hv
      have zs := At.here s
      have Wx := (Wc.kp kh').kp x.keep
      have eg : ((List.range 8).map sh).getD j 0 = sh j := by rw [List.getD_eq_getElem?_getD, List.getElem?_map, List.getElem?_range hj]; rfl
      refine wpAny_BinOp (cF zs Wx (by rfl) (by rfl) (wpAny_items_cons (nL zs x.ns hm (wpAny_items_cons (nC zs (x.keep.cell (kh'.cell cs)) (by rfl) (wpAny_items_nil ⟨_, zs, .refl _, ?_⟩))))))
      refine sign_c zs Wx hA hi fun h₁ s₁ t₁ z₁ k₁ => ?_
      refine sLI (nC z₁ (k₁.cell (x.keep.cell (kh'.cell ck))) (by rfl) (nL z₁ (k₁.ns x.ns) hm ⟨_, _, l, _, j, tj, z₁, rfl, rfl, k₁.li (x.keep.li (kh'.li li)), by omega, by rw [List.length_map, List.length_range]; omega, by rw [List.length_map, List.length_range]; omega, fun t₂ => ?_⟩))
      rw [Int.toNat_natCast, eg]
      have := sg_bound (j &&& i)
      exact mulI z₁ (mul_small (by omega) (by omega)) fun t₃ s₃ z₃ => ⟨⟨t₃, rfl⟩, z₃.gr⟩
    case hQ2 =>
      intro D k h₂ s₂ ys z₂ k₂ hD pl pr
      rw [filt_all] at pr
      refine wpAny_items_nil (sumLI z₂ hA.h ⟨ys, pl, Paired.map (F := fun i y => IntV y i) (fun k => sg (k &&& i) * sh k) pr⟩ fun h₃ s₃ t' z₃ k₃ => ?_)
      refine mulI z₃ (mul_small (by decide) (by decide)) fun t₄ s₄ z₄ => wpAny_BinOp (cInt z₄ fun t₅ s₅ z₅ => wpAny_BinOp (cInt z₅ fun t₆ s₆ z₆ => nC z₆ (k₃.cell (k₂.cell cd)) (by rfl) (powI z₆ (by omega) (by omega) (by decide) fun t₇ s₇ z₇ => mulI z₇ (mul_small (by decide) (by decide)) fun t₈ s₈ z₈ hup8 => ?_)))
      rw [Int.toNat_natCast]
      have hj : (8 * 16 ^ d : Int) ≠ 0 ∧ (2 : Int) ^ 18 = 2 ^ (15 - 4 * d) * (8 * 16 ^ d) := by
        rcases (by omega : d = 1 ∨ d = 2 ∨ d = 3) with rfl | rfl | rfl <;> decide
      refine ndiviiP (Nat.lt_of_lt_of_le hs0 (Nat.le_trans hup1 hup8)) (c := dueF sh d i) hj.1 ?_ (hb i hi) fun x t k hu hx => ⟨⟨x, t, rfl, hu, hx⟩, z₈.gr.trans (.tok _ _)⟩
      show 7 * backF sh i * 2 ^ 18 = dueF sh d i * (8 * 16 ^ d)
      unfold dueF
      rw [hj.2, Int.mul_assoc (7 * backF sh i)]
  case hQ =>
    intro D k s' ys zz sm nD I' pr
    rw [filt_all] at pr
    have z' := z.in sm rfl k0 I'
    obtain ⟨h₁, k1, I3, k3, hb'⟩ := I'.rebase
    have e := I'.get (.head _)
    exact fun hup => hrest s' s'.heap h₁ D z' k1 (k0.trans k1) I3 (KpBut.lp hb' (I'.offL ⟨zz, e⟩) ⟨ys, ⟨zz, e⟩, Paired.map (F := fun c y => FltP y c) (dueF sh d) pr⟩) hup
end
end Mine
end

section
open PySem PySem.Spec PySem.Calls PySem.W PyProof.Rows
set_option Elab.async false
namespace Mine
set_option maxRecDepth 100000
section
variable {w : World} {mg mb : Mp} {A : Around} {s s₀ : Shared} {h h₀ : Heap} {Q : Flow → Shared → Prop} {E : Value → Shared → Prop} {L : Addr} {q : Str} {m cm : Mp}
set_option maxHeartbeats 8000000 in
theorem law_16 (z : At s₀ h s) (k0 : Kp s₀.heap h₀) (W : Wd (Mine.hd.heap_39 w.params) mg mb h₀) (hA : Rm 1 A) (I : Inn h₀ L (lawOc L) m cm [] h) {lr ls lw : Addr} {rows : List Str} {cs : List Int} (c1 : cm (Str.ofString "rows") = some (.ref lr)) (hlr : LS h₀ lr rows) (hrl : rows.length = 8)
    (c2 : cm (Str.ofString "shown") = some (.ref ls)) (hls : LI h₀ ls ((List.range 8).map Int.ofNat)) (c3 : cm (Str.ofString "worth") = some (.ref lw)) (hlw : LF h₀ lw cs) (hcl : cs.length = 8) (hnd : rows.Nodup)
    (hrest : ∀ s' h' h₁ D is, At s₀ h' s' → Kp h₀ h₁ → Kp s₀.heap h₁ → Inn h₁ L (lawOc L) m (up cm (Str.ofString "listing") (.ref D)) [] h' → is.Perm (List.range 8) → TL h₁ D rows cs is → s.toks ≤ s'.toks →
      wpAny (model PySem.Challenge.rw_tv0030_01.row.prog w) A (execs ((lawBody w.params).drop 17) (lawEnv w.params L q)) Q E s') :
    wpAny (model PySem.Challenge.rw_tv0030_01.row.prog w) A (execs ((lawBody w.params).drop 16) (lawEnv w.params L q)) Q E s := by
  have Wh := W.kp I.keep
  have e1 : h.IsCell (L + 6) (some (.ref lr)) := c1 ▸ I.cell (Str.ofString "rows", L + 6) (by simp [lawOc])
  have e2 : h.IsCell (L + 7) (some (.ref ls)) := c2 ▸ I.cell (Str.ofString "shown", L + 7) (by simp [lawOc])
  have e3 : h.IsCell (L + 9) (some (.ref lw)) := c3 ▸ I.cell (Str.ofString "worth", L + 9) (by simp [lawOc])
  obtain ⟨yr, plr, prr⟩ := I.keep.ls hlr
  have lis := I.keep.li hls
  obtain ⟨yw, plw, prw⟩ := I.keep.lf hlw
  refine execs_up (wpAny_Assign_Name (cB z Wh (by rfl) boot_sorted (by decide) (wpAny_items_cons ?_)))
  refine cmp (n := 8) (p := fun _ => true) (F := fun k i y h => ∃ T t u x, y = .ref T ∧ k ≤ T ∧ h.get? T = some (tup (List.toArray [.str (rows.getD i default) t, .int i u, x])) ∧ FltV x (cs.getD i 0)) z (sRange z hA.h Wh (by rfl) rfl (by decide)) (by decide) (fun h₀ C kh hC => turn_local ?tests ?elt) ?hF ?hQ (by rfl) (by decide) (by decide)
  case tests => intro i v s m cm E hi hv hm x; exact tests_no (i := i)
  case hF =>
    rintro k k' i y h h' hkk hk ⟨T, t, u, x, e, hT, g, f⟩
    exact ⟨T, t, u, x, e, Nat.le_trans hkk hT, hk T _ (Nat.le_trans hkk hT) (not_isT_cls rfl) g, f⟩
  case elt =>
    intro i v s m cm E hi ⟨tv, hv⟩ hp hm x
    subst hv
    have zc := At.here s
    have cr := x.keep.cell (kh.cell e1)
    have cs' := x.keep.cell (kh.cell e2)
    have cw := x.keep.cell (kh.cell e3)
    have eg : ((List.range 8).map Int.ofNat).getD i 0 = (i : Int) := by rw [List.getD_eq_getElem?_getD, List.getElem?_map, List.getElem?_range hi]; rfl
    refine mkTup (wpAny_items_cons (sP (nC zc cr (by rfl) (nL zc x.ns hm ⟨_, _, lr, rows, yr, i, tv, rows.getD i default, zc, rfl, rfl, x.keep.list (kh.list plr), prr, by omega, by omega, ?_, fun v1 hv1 => ?_⟩))))
    · rw [Int.toNat_natCast, List.getD_eq_getElem?_getD, List.getElem?_eq_getElem (by omega)]; rfl
    refine wpAny_items_cons (sLI (nC zc cs' (by rfl) (nL zc x.ns hm ⟨_, _, ls, _, i, tv, zc, rfl, rfl, x.keep.li (kh.li lis), by omega, by rw [List.length_map, List.length_range]; omega, by rw [List.length_map, List.length_range]; omega, fun t2 => ?_⟩)))
    rw [Int.toNat_natCast, eg]
    refine wpAny_items_cons (sP (nC zc cw (by rfl) (nL zc x.ns hm ⟨_, _, lw, cs, yw, i, tv, cs.getD i 0, zc, rfl, rfl, x.keep.list (kh.list plw), prw, by omega, by omega, ?_, fun v3 hv3 => ?_⟩)))
    · rw [Int.toNat_natCast, List.getD_eq_getElem?_getD, List.getElem?_eq_getElem (by omega)]; rfl
    obtain ⟨t1, rfl⟩ := hv1
    exact wpAny_items_nil ⟨Nat.le_of_ble_eq_true rfl, _, _, zc, fun h' s' z' k' e' => ⟨⟨_, t1, t2, v3, rfl, Nat.le_refl _, z'.hp ▸ e', hv3⟩, z'.gr⟩⟩
  case hQ =>
    intro D k h₂ s₂ ys z₂ k₂ hD pl pr
    rw [filt_all] at pr
    have I2 := I.kp k₂
    have hlen := pr.length
    rw [List.length_range] at hlen
    have pr1 : Paired (fun i v => TupAt h₂ rows cs i v) (List.range 8) ys.toList := Paired.imp (fun i v ⟨T, t, u, x, e, _, g, f⟩ => ⟨T, t, u, x, e, g, f⟩) pr
    have hv : Paired (fun x v => LeadS h₂ v x) rows ys.toList := by
      have h3 := Paired.map (F := fun x v => LeadS h₂ v x) (fun i => rows.getD i default) (Paired.imp (fun i v ⟨T, t, u, x, e, g, f⟩ => ⟨T, t, _, e, g⟩) pr1)
      rw [map_getD8 (fun x => x) default hrl] at h3
      simpa using h3
    refine wpAny_items_nil (sorted_c z₂ k0 I2 (by simpa using pl) hv (by omega) (by omega) hnd fun D' vs' h₃ s₃ z₃ I3 nD' pl' hp keep => ?_)
    obtain ⟨is, hip, pr2⟩ := Paired.perm hp pr1
    refine finC (c := L + 12) z₃ k0 I3 (by simp [lawOc]) (by rfl) fun h5 s5 h₁ z5 k1 k2 I5 hb hup => hrest s5 h5 h₁ D' is z5 k1 k2 I5 hip ⟨vs'.toArray, ?_, ?_⟩ hup
    · obtain ⟨n', e'⟩ := pl'
      have := I3.offL ⟨n', e'⟩
      exact ⟨n', hb _ _ e' this.1 this.2⟩
    · refine Paired.imp (fun i v hx => ?_) pr2
      obtain ⟨T, t, u, x, e, g, f⟩ := hx
      have o2 := I2.offS g rfl
      exact ⟨T, t, u, x, e, hb _ _ (keep _ _ o2.1 g) o2.1 o2.2, f⟩
set_option maxHeartbeats 8000000 in
theorem law_17 (z : At s₀ h s) (k0 : Kp s₀.heap h₀) (hA : Rm 1 A) (I : Inn h₀ L (lawOc L) m cm [] h) {ll : Addr} {rows : List Str} {cs : List Int} {is : List Nat} (c1 : cm (Str.ofString "listing") = some (.ref ll)) (hl : TL h₀ ll rows cs is) (hil : is.length = 8)
    (hrest : ∀ s' h' h₁ D, At s₀ h' s' → Kp h₀ h₁ → Kp s₀.heap h₁ → Inn h₁ L (lawOc L) m (up cm (Str.ofString "column") (.ref D)) [] h' → LF h₁ D (is.map fun i => cs.getD i 0) → s.toks ≤ s'.toks →
      wpAny (model PySem.Challenge.rw_tv0030_01.row.prog w) A (execs ((lawBody w.params).drop 18) (lawEnv w.params L q)) Q E s') :
    wpAny (model PySem.Challenge.rw_tv0030_01.row.prog w) A (execs ((lawBody w.params).drop 17) (lawEnv w.params L q)) Q E s := by
  have e1 : h.IsCell (L + 12) (some (.ref ll)) := c1 ▸ I.cell (Str.ofString "listing", L + 12) (by simp [lawOc])
  obtain ⟨yl, pll, prl⟩ := I.keep.tl hl
  refine execs_up (wpAny_Assign_Name (cmp (n := is.length) (p := fun _ => true) (F := fun _ j y _ => FltV y (cs.getD (is.getD j 0) 0)) z (srcP z hA.h pll prl fun E Q hq => nC z e1 (by rfl) hq) (by rw [hil]; decide)
    (fun h₀ C kh hC => turn_tup3 (fun j a b c => FltV c (cs.getD (is.getD j 0) 0)) hA.h ?hP ?tests ?elt) ?hF ?hQ (by rfl) (by decide) (by decide)))
  case hP =>
    rintro j v ⟨i, hi, T, t, u, x, e, g, f⟩
    exact ⟨T, _, _, x, e, kh.get g (not_isT_cls rfl), by rw [List.getD_eq_getElem?_getD (l := is), hi]; exact f⟩
  case tests => intro i s m cm E a b c hi hg h1 h2 h3 x; exact tests_no (i := i)
  case hF => intro k k' i y h h' _ _ f; exact f
  case elt =>
    intro j s m cm E a b c hj hg hp h1 h2 h3 x
    exact nL (At.here s) x.ns h3 ⟨hg, .refl _⟩
  case hQ =>
    intro D k h₂ s₂ ys z₂ k₂ hD pl pr
    rw [hil, filt_all] at pr
    have I2 := I.kp k₂
    refine finC (c := L + 13) z₂ k0 I2 (by simp [lawOc]) (by rfl) fun h5 s5 h₁ z5 k1 k2 I5 hb hup => hrest s5 h5 h₁ D z5 k1 k2 I5 (hb.lf (I2.offL pl) ⟨ys, pl, ?_⟩) hup
    have := Paired.map (F := fun c y => FltV y c) (fun j => cs.getD (is.getD j 0) 0) pr
    rw [map_getD8 (fun i => cs.getD i 0) 0 hil] at this
    exact this
end
end Mine
end

section
open PySem PySem.Spec PySem.Calls PySem.W PyProof.Rows
set_option Elab.async false
namespace Mine
set_option maxRecDepth 100000
def maskI (k i : Nat) : Int := if i &&& k = k then 1 else 0
section
variable {w : World} {mg mb : Mp} {A : Around} {s s₀ : Shared} {h h₀ : Heap} {Q : Flow → Shared → Prop} {E : Value → Shared → Prop} {L : Addr} {q : Str} {m cm : Mp}
set_option maxHeartbeats 8000000 in
theorem law_18 (z : At s₀ h s) (k0 : Kp s₀.heap h₀) (W : Wd (Mine.hd.heap_39 w.params) mg mb h₀) (hA : Rm 2 A) (hs0 : 0 < s.toks) (T : TB h₀ 69) (B : BMo mg h₀) (I : Inn h₀ L (lawOc L) m cm [] h) {ll lc : Addr} {rows : List Str} {cs : List Int} {is : List Nat}
    (c1 : cm (Str.ofString "listing") = some (.ref ll)) (hl : TL h₀ ll rows cs is) (hil : is.length = 8)
    (c2 : cm (Str.ofString "column") = some (.ref lc)) (hc : LF h₀ lc (is.map fun i => cs.getD i 0)) (hb : ∀ c ∈ is.map fun i => cs.getD i 0, c.natAbs ≤ 2 ^ 41) {yb : Int} (hyb : (is.map fun i => cs.getD i 0).sum = yb * 8) (cv : Nat → Int)
    (hcov : ∀ k, 1 ≤ k → k < 8 → ∃ ds : List Int, ds.length = 8 ∧ (∀ j, j < 8 → (8 * (is.map (maskI k)).getD j 0 - (is.map (maskI k)).sum) * ((is.map fun i => cs.getD i 0).getD j 0 - yb) = ds.getD j 0 * 8) ∧ ds.sum = cv k * 7)
    (hrest : ∀ s' h' h₁ D, At s₀ h' s' → Kp h₀ h₁ → Kp s₀.heap h₁ → Inn h₁ L (lawOc L) (up m (Str.ofString "told") (.ref D)) cm [] h' → LP h₁ D ((List.range 7).map fun i => cv (1 + i)) → s.toks ≤ s'.toks →
      wpAny (model PySem.Challenge.rw_tv0030_01.row.prog w) A (execs ((lawBody w.params).drop 19) (lawEnv w.params L q)) Q E s') :
    wpAny (model PySem.Challenge.rw_tv0030_01.row.prog w) A (execs ((lawBody w.params).drop 18) (lawEnv w.params L q)) Q E s := by
  have hz := z.hp
  subst hz
  have Wh := W.kp I.keep
  have Th := I.keep.tb T
  have Bh := I.keep.bmo B
  have e1 : s.heap.IsCell (L + 12) (some (.ref ll)) := c1 ▸ I.cell (Str.ofString "listing", L + 12) (by simp [lawOc])
  have e2 : s.heap.IsCell (L + 13) (some (.ref lc)) := c2 ▸ I.cell (Str.ofString "column", L + 13) (by simp [lawOc])
  have hlh := I.keep.tl hl
  have hch := I.keep.lf hc
  refine execs_up (comp_assign (n := 7) (p := fun _ => true) (P := fun i v => IntV v (1 + (i : Int))) (F := fun _ i y _ => FltP y (cv (1 + i))) I (src_of_range (a := 1) (b := 8) hA.h (by decide) (by decide) (by decide) ?src) (by decide) (fun h₀ C kh hC => turn_cellP (c := C + 1) ?tests ?elt (.head _) (by rfl)) ?hF ?hQ (by rfl) (by rfl) (by decide) (by decide))
  case src =>
    intro E Q hq
    have zs := At.here s
    refine cT zs Wh (by rfl) boot_range (by decide) (wpAny_items_cons (cInt zs fun t₂ s₂ z₂ => wpAny_items_cons (cInt z₂ fun t₃ s₃ z₃ => wpAny_items_nil ?_)))
    exact call_range_2 (hq _ _ _ _ _ (z₃.gr.trans (.keep fun _ _ e => Heap.get?_push_of_some _ e)) (IsRange.new ..))
  case tests => intro i v s m cm E hi hv hm x; exact tests_no (i := i)
  case hF => intro k k' i y h h' _ _ f; exact f
  case elt =>
    intro i v s m cm E hi ⟨tv, hv⟩ hp hm x hup1
    subst hv
    have zc := At.here s
    have cl := x.keep.cell (kh.cell e1)
    have cc := x.keep.cell (kh.cell e2)
    obtain ⟨yl, pll, prl⟩ := x.keep.tl (kh.tl hlh)
    have lfc := x.keep.lf (kh.lf hch)
    have Wc := (Wh.kp kh).kp x.keep
    have Tc := x.keep.tb (kh.tb Th)
    have Bc := x.keep.bmo (kh.bmo Bh)
    have ek : ((1 : Int) + (i : Int)) = ((1 + i : Nat) : Int) := by omega
    rw [ek] at hm
    have cs' : s.heap.IsCell (C + 1) (some (.int ((1 + i : Nat) : Int) tv)) := hm ▸ x.cell (Str.ofString "some", C + 1) (.head _)
    refine cFp zc Wc (by rfl) (by rfl) (wpAny_items_cons ?_)
    refine cmp (n := is.length) (p := fun _ => true) (F := fun _ j y _ => IntV y (maskI (1 + i) (is.getD j 0))) zc (srcP zc hA.h pll prl fun E Q hq => nC zc cl (by rfl) hq) (by rw [hil]; decide)
      (fun h₀' C' kh' hC' => turn_tup3 (fun j a b c => IntV b ((is.getD j 0 : Nat) : Int)) hA.h ?hP ?t2 ?e2) ?hF2 ?hQ2 (by rfl) (by decide) (by decide)
    case hP =>
      rintro j v ⟨i, hi, T, t, u, x, e, g, f⟩
      exact ⟨T, _, _, x, e, kh'.get g (not_isT_cls rfl), u, by rw [List.getD_eq_getElem?_getD, hi]; rfl⟩
    case t2 => intro i s m cm E a b c hi hg h1 h2 h3 x; exact tests_no (i := i)
    case hF2 => intro k k' i y h h' _ _ f; exact f
    case e2 =>
      intro j s m cm E a b c hj ⟨tb, hg⟩ hp h1 h2 h3 x
      subst hg
      have zs := At.here s
      have cx := x.keep.cell (kh'.cell cs')
      refine wpAny_IfExp (wpAny_isTrue_Compare1 (wpAny_BinOp (nL zs x.ns h2 (nC zs cx (by rfl) (andI zs fun t₁ s₁ z₁ => nC z₁ cx (by rfl) (eq_int (wpAny_truthy_bool ?_)))))))
      rw [bitAnd_nat]
      unfold maskI
      by_cases hm' : is.getD j 0 &&& (1 + i) = 1 + i
      · rw [if_pos (by rw [hm']; simp), if_pos hm']
        exact cInt z₁ fun t₂ s₂ z₂ => ⟨⟨t₂, rfl⟩, z₂.gr⟩
      · rw [if_neg (by rw [beq_iff_eq, Int.natCast_inj]; exact hm'), if_neg hm']
        exact cInt z₁ fun t₂ s₂ z₂ => ⟨⟨t₂, rfl⟩, z₂.gr⟩
    case hQ2 =>
      intro D k h₂ s₂ ys z₂ k₂ hD pl pr
      rw [hil, filt_all] at pr
      have li : LI h₂ D (is.map (maskI (1 + i))) := ⟨ys, pl, by
        have := Paired.map (F := fun i y => IntV y i) (fun j => maskI (1 + i) (is.getD j 0)) pr
        rw [map_getD8 (maskI (1 + i)) 0 hil] at this
        exact this⟩
      obtain ⟨ds, d1, d2, d3⟩ := hcov (1 + i) (by omega) (by omega)
      refine wpAny_items_cons (nC z₂ (k₂.cell cc) (by rfl) (wpAny_items_nil fun hup2 => ⟨h₂, z₂, k₂, ?_⟩))
      refine covariance_c z₂ (Wc.kp k₂) hA (Nat.lt_of_lt_of_le hs0 (Nat.le_trans hup1 hup2)) (k₂.tb Tc) (k₂.bmo Bc) li (k₂.lf lfc) (by rw [List.length_map]; exact hil) (by rw [List.length_map]; exact hil) d1 (fun x hx => ?_) hb hyb d2 d3 fun h₃ s₃ y t z₃ k₃ hy hu => ⟨⟨y, t, rfl, hu, hy⟩, z₃.gr⟩
      obtain ⟨j, _, rfl⟩ := List.mem_map.mp hx
      unfold maskI
      split
      · exact .inr rfl
      · exact .inl rfl
  case hQ =>
    intro D k s' ys zz sm nD I' pr
    rw [filt_all] at pr
    have z' := z.in sm rfl k0 I'
    obtain ⟨h₁, k1, I3, k3, hb'⟩ := I'.rebase
    have e := I'.get (.head _)
    exact fun hup => hrest s' s'.heap h₁ D z' k1 (k0.trans k1) I3 (KpBut.lp hb' (I'.offL ⟨zz, e⟩) ⟨ys, ⟨zz, e⟩, Paired.map (F := fun c y => FltP y c) (fun i => cv (1 + i)) pr⟩) hup
end
end Mine
end

section
open PySem PySem.Spec PySem.Calls PySem.W PyProof.Rows
set_option Elab.async false
namespace Mine
set_option maxRecDepth 100000
theorem cmp_self (c : Int) : compare c c = .eq := by simp [compare, compareOfLessAndEq]
section
variable {prog : Program} {w : World} {A : Around} {s s₀ : Shared} {h : Heap} {E : Value → Shared → Prop} {Q : Value → Shared → Prop}
theorem cAddP {α : Type} {F : α → Value → Prop} {l1 l2 : Addr} {as bs : List α} {ys1 ys2 : Array Value} (z : At s₀ h s) (h1 : h.PlainList l1 ys1) (p1 : Paired F as ys1.toList) (h2 : h.PlainList l2 ys2) (p2 : Paired F bs ys2.toList) (hsz : as.length + bs.length ≤ 100)
    (q : ∀ D h' s', At s₀ h' s' → Kp h h' → (∀ o, h.get? D ≠ some o) → h'.PlainList D (ys1 ++ ys2) → Paired F (as ++ bs) (ys1 ++ ys2).toList → Q (.ref D) s') : wpAny (model prog w) A (binaryOp .Add (.ref l1) (.ref l2)) Q E s := by
  have hz := z.hp
  subst hz
  obtain ⟨n1, e1⟩ := h1
  obtain ⟨n2, e2⟩ := h2
  have l1' := p1.length
  have l2' := p2.length
  refine PySem.P.add_list e1 e2 (q _ _ _ (z.to (.push _ _)) (.push _ _) (fun o e => absurd (Heap.lt_size e) (Nat.lt_irrefl _)) ⟨_, Heap.get?_push_size _ rfl⟩ ?_) ?_
  · rw [Array.toList_append]
    clear e1 e2 l1' l2' hsz q
    generalize ys1.toList = a at p1
    induction p1 with
    | nil => exact p2
    | cons hx _ ih => exact .cons hx ih
  · have : ys1.size + ys2.size ≤ 100 := by rw [← Array.length_toList, ← Array.length_toList, ← l1', ← l2']; exact hsz
    exact Nat.le_trans this (by decide)
theorem isSame_flt {M : Model} {x y : UInt64} {t u : Tok} {Q : Bool → Shared → Prop} (h0 : t ≠ 0) (h1 : u ≠ 0) (hb : NoneBooked s.heap) (hq : ∀ b, Q b s) : wpAny M A (isSame (.float x t) (.float y u)) Q E s := by
  show wpAny M A (isSame.created (x == y && !Float64.isNaN x) t u) Q E s
  unfold isSame.created
  refine wpAny_ite_split (fun h => ?_) (fun _ => ?_)
  · exfalso
    rcases Bool.or_eq_true_iff.mp h with h | h
    · exact h0 (by simpa using h)
    · exact h1 (by simpa using h)
  refine wpAny_ite_split (fun _ => wpAny_pure (hq _)) (fun _ => ?_)
  refine wpAny_ite_split (fun _ => wpAny_pure (hq _)) (fun _ => ?_)
  refine wpAny_bind (wpAny_sharingNotTold_none hb ?_)
  rw [if_neg Bool.false_ne_true]
  refine wpAny_bind (wpAny_sharingNotTold_none hb ?_)
  rw [if_neg Bool.false_ne_true]
  exact wpAny_bind (wpAny_rule (wpAny_bind (wpAny_askSetting (wpAny_pure (hq _)))))
theorem eqAt_flt {x y : UInt64} {t u : Tok} {c : Int} (h0 : t ≠ 0) (h1 : u ≠ 0) (hb : NoneBooked s.heap) (hx : Fl x c) (hy : Fl y c) : SeqAt.EqAt A s (.float x t) (.float y u) true := fun prog w E Q h => by
  unfold eqBool
  refine wpAny_holding ?_
  refine wpAny_ite_split (fun _ => ?_) (fun _ => ?_)
  · exact wpAny_bind (wpAny_rule (wpAny_pure h))
  · refine wpAny_bind (isSame_flt h0 h1 hb fun b => ?_)
    cases b with
    | true => exact wpAny_pure h
    | false =>
      refine wpAny_bind (PySem.AutoFloatOps.eq_0 ?_)
      rw [hx.cmp hy, cmp_self]
      exact wpAny_pure h
theorem ne_lp {l1 l2 : Addr} {cs : List Int} (z : At s₀ h s) (hu : A.units < cLine) (hb : NoneBooked h) (h1 : LP h l1 cs) (h2 : LP h l2 cs) (q : Q (.bool false) s) : wpAny (model prog w) A (compareOp .NotEq (.ref l1) (.ref l2)) Q E s := by
  have hz := z.hp
  subst hz
  obtain ⟨ys1, p1, r1⟩ := h1
  obtain ⟨ys2, p2, r2⟩ := h2
  have hs : ys1.size = ys2.size := by rw [← Array.length_toList, ← Array.length_toList, ← r1.length, ← r2.length]
  refine SeqAt.RcNeAt.lists (e := fun _ => true) (items := ys1) (items2 := ys2) p1.isList p2.isList hs hu (fun j h1 h2 => ?_) _ _ _ _ ?_
  · obtain ⟨a, ha, x, t, ea, ta, fa⟩ := Paired.get' r1 j ys1[j] (by simp [h1])
    obtain ⟨b, hb', y, u, eb, tb, fb⟩ := Paired.get' r2 j ys2[j] (by simp [h2])
    rw [ha] at hb'
    cases hb'
    rw [ea, eb]
    exact eqAt_flt ta tb hb fa fb
  · have : (!(List.range ys1.size).all fun _ => true) = false := by simp
    rw [this]
    exact q
theorem Kp.booked {h h' : Heap} (k : Kp h h') (x : NoneBooked h) : NoneBooked h' := let ⟨mc, a, b⟩ := x; ⟨mc, k.ns a, b⟩
end
theorem ty_float : typeOf (.type "float") = pure (.type "type") := by kernel_rfl
theorem sub_float_float : isSubtype (.type "float") (.type "float") = pure true := by rw [isSubtype_type]; kernel_rfl
theorem boot_float : bootBuiltins "float" = some (.type "float") := by decide +kernel
theorem half_bd : ∀ a, a < 8 → 0 ≤ weightF a [1, 1, 1] ∧ weightF a [1, 1, 1] ≤ 3 := by decide
def halfF (a : Nat) : Int := 2 ^ (weightF a [1, 1, 1]).toNat
section
variable {w : World} {mg mb : Mp} {A : Around} {s s₀ : Shared} {h h₀ : Heap} {Q : Flow → Shared → Prop} {E : Value → Shared → Prop} {L : Addr} {q : Str} {m cm : Mp}
set_option maxHeartbeats 8000000 in
theorem law_19 (z : At s₀ h s) (W : Wd (Mine.hd.heap_39 w.params) mg mb h₀) (hA : Rm 1 A) (hu : A.units < cLine) (I : Inn h₀ L (lawOc L) m cm [] h) {lw lt : Addr} {cs ts : List Int}
    (c1 : cm (Str.ofString "worth") = some (.ref lw)) (hw : LF h₀ lw cs) (hcl : cs.length = 8) (m1 : m (Str.ofString "told") = some (.ref lt)) (ht : LF h₀ lt ts) (htl : ts.length = 7)
    (hrest : ∀ s' h', At s₀ h' s' → Inn h₀ L (lawOc L) m cm [] h' → s.toks ≤ s'.toks →
      wpAny (model PySem.Challenge.rw_tv0030_01.row.prog w) A (execs ((lawBody w.params).drop 20) (lawEnv w.params L q)) Q E s') :
    wpAny (model PySem.Challenge.rw_tv0030_01.row.prog w) A (execs ((lawBody w.params).drop 19) (lawEnv w.params L q)) Q E s := by
  have hz := z.hp
  subst hz
  have Wh := W.kp I.keep
  have e1 : s.heap.IsCell (L + 9) (some (.ref lw)) := c1 ▸ I.cell (Str.ofString "worth", L + 9) (by simp [lawOc])
  obtain ⟨yw, plw, prw⟩ := I.keep.lf hw
  obtain ⟨yt, plt, prt⟩ := I.keep.lf ht
  refine execs_up (wpAny_If (wpAny_isTrue_Compare1 ?_))
  refine cmp (n := (cs ++ ts).length) (p := fun _ => false) (F := fun _ _ _ _ => True) z (srcD (F := fun c v => FltV v c) hA.h fun E Q hq => wpAny_BinOp (nC (At.here s) e1 (by rfl) (nL (At.here s) I.ns m1 (cAddP (At.here s) plw prw plt prt (by omega) fun D h' s' z' k' nD pl pr => hq s' D _ z'.gr (z'.hp.symm ▸ pl) pr))))
    (by rw [List.length_append, hcl, htl]; decide) (fun h₀ C kh hC => turn_local ?tests ?elt) ?hF ?hQ (by rfl) (by decide) (by decide)
  case tests =>
    intro i v s m cm E hi ⟨c, hc, x', t', hv, fl⟩ hm x
    subst hv
    have zs := At.here s
    have Wc := (Wh.kp kh).kp x.keep
    refine wpAny_tests_one (wpAny_isTrue_Not (wpAny_isTrue_value (cB zs Wc (by rfl) boot_isinstance (by decide) (wpAny_items_cons (nL zs x.ns hm (wpAny_items_cons (nm_B Wc (by rfl) boot_float (by decide) (wpAny_items_nil ?_))))))))
    exact call_isinstance_yes (typeIs_float s x' t') ty_float sub_float_float (wpAny_truthy_bool ⟨rfl, .refl _⟩)
  case hF => intro k k' i y h h' _ _ f; exact f
  case elt => intro i v s m cm E hi hv hp; exact absurd hp (by simp)
  case hQ =>
    intro D k h₂ s₂ ys z₂ k₂ hD pl pr
    refine mkList (wpAny_items_nil ⟨Nat.le_of_ble_eq_true rfl, _, _, z₂, fun D2 h₃ s₃ z₃ k₃ nD2 pl3 => ?_⟩)
    have hz : ys.size = 0 := by rw [← Array.length_toList, ← pr.length]; simp
    have hz3 := z₃.hp
    subst hz3
    refine SeqAt.RcNeAt.lists (e := fun _ => true) (items := ys) (items2 := #[]) (k₃.list pl).isList pl3.isList (by simpa using hz) hu (fun j h1 h2 => absurd h2 (Nat.not_lt_zero _)) _ _ _ _ (wpAny_truthy_bool ?_)
    rw [if_neg (by simp)]
    exact wpAny_execs_nil fun hup => hrest s₃ _ z₃ ((I.kp k₂).kp k₃) hup
set_option maxHeartbeats 8000000 in
theorem law_20 (z : At s₀ h s) (k0 : Kp s₀.heap h₀) (W : Wd (Mine.hd.heap_39 w.params) mg mb h₀) (hA : Rm 1 A) (I : Inn h₀ L (lawOc L) m cm [] h)
    (hrest : ∀ s' h' h₁ D, At s₀ h' s' → Kp h₀ h₁ → Kp s₀.heap h₁ → Inn h₁ L (lawOc L) m (up cm (Str.ofString "halves") (.ref D)) [] h' → LI h₁ D ((List.range 8).map halfF) → s.toks ≤ s'.toks →
      wpAny (model PySem.Challenge.rw_tv0030_01.row.prog w) A (execs ((lawBody w.params).drop 21) (lawEnv w.params L q)) Q E s') :
    wpAny (model PySem.Challenge.rw_tv0030_01.row.prog w) A (execs ((lawBody w.params).drop 20) (lawEnv w.params L q)) Q E s := by
  have Wh := W.kp I.keep
  refine execs_up (wpAny_Assign_Name (cmp (n := 8) (p := fun _ => true) (F := fun _ i y _ => IntV y (halfF i)) z (sRange z hA.h Wh (by rfl) rfl (by decide)) (by decide) (fun h₀ C kh hC => turn_local ?tests ?elt) ?hF ?hQ (by rfl) (by decide) (by decide)))
  case tests => intro i v s m cm E hi hv hm x; exact tests_no (i := i)
  case hF => intro k k' i y h h' _ _ f; exact f
  case elt =>
    intro i v s m cm E hi ⟨tv, hv⟩ hp hm x
    subst hv
    have zc := At.here s
    have Wc := (Wh.kp kh).kp x.keep
    have hb := half_bd i hi
    refine wpAny_BinOp (cInt zc fun t₁ s₁ z₁ => cF z₁ Wc (by rfl) (by rfl) (wpAny_items_cons (nL z₁ x.ns hm (wpAny_items_cons (mkList (wpAny_items_cons (cInt z₁ fun t₂ s₂ z₂ => wpAny_items_cons (cInt z₂ fun t₃ s₃ z₃ => wpAny_items_cons (cInt z₃ fun t₄ s₄ z₄ => wpAny_items_nil ?_)))))))))
    refine ⟨Nat.le_of_ble_eq_true rfl, _, _, z₄, fun a h₅ s₅ z₅ k₅ n₅ pl₅ => wpAny_items_nil ⟨h₅, z₅, k₅, ?_⟩⟩
    refine weight_c (ws := [1, 1, 1]) z₅ (Wc.kp k₅) hA ⟨_, pl₅, .cons ⟨_, rfl⟩ (.cons ⟨_, rfl⟩ (.cons ⟨_, rfl⟩ .nil))⟩ rfl fun h₆ s₆ t₆ z₆ k₆ => powI z₆ hb.1 (by omega) (by decide) fun t₇ s₇ z₇ => ⟨⟨t₇, rfl⟩, z₇.gr⟩
  case hQ =>
    intro D k h₂ s₂ ys z₂ k₂ hD pl pr
    rw [filt_all] at pr
    exact finC (c := L + 14) z₂ k0 (I.kp k₂) (by simp [lawOc]) (by rfl) fun h5 s5 h₁ z5 k1 k2 I5 hb hup => hrest s5 h5 h₁ D z5 k1 k2 I5 (hb.li (I.base hD) ⟨ys, pl, Paired.map (F := fun i y => IntV y i) halfF pr⟩) hup
set_option maxHeartbeats 8000000 in
theorem law_21 (z : At s₀ h s) (W : Wd (Mine.hd.heap_39 w.params) mg mb h₀) (hA : Rm 2 A) (hu : A.units < cLine) (hs0 : 0 < s.toks) (hnb : NoneBooked h₀) (I : Inn h₀ L (lawOc L) m cm [] h) {lw ld lt lh ls : Addr} {cs : List Int} {sl : List Int} {cv : Nat → Int} {d : Nat} {t : Tok}
    (c1 : cm (Str.ofString "worth") = some (.ref lw)) (hw : LP h₀ lw cs) (m1 : m (Str.ofString "due") = some (.ref ld)) (hd : LP h₀ ld cs) (m2 : m (Str.ofString "told") = some (.ref lt)) (ht : LP h₀ lt ((List.range 7).map fun i => cv (1 + i)))
    (c2 : cm (Str.ofString "halves") = some (.ref lh)) (hh : LI h₀ lh ((List.range 8).map halfF)) (c3 : cm (Str.ofString "shrunk") = some (.ref ls)) (hs : LI h₀ ls sl) (hsl : sl.length = 8) (c4 : cm (Str.ofString "days") = some (.int d t)) (hd0 : 0 < d) (hd3 : d ≤ 3)
    (hcv : ∀ k, 1 ≤ k → k < 8 → withinF k sl * 2 ^ 18 = cv k * (halfF k * 16 ^ d) ∧ (cv k).natAbs < 2 ^ 53)
    (hrest : ∀ s' h', At s₀ h' s' → Inn h₀ L (lawOc L) m cm [] h' → s.toks ≤ s'.toks →
      wpAny (model PySem.Challenge.rw_tv0030_01.row.prog w) A (execs ((lawBody w.params).drop 22) (lawEnv w.params L q)) Q E s') :
    wpAny (model PySem.Challenge.rw_tv0030_01.row.prog w) A (execs ((lawBody w.params).drop 21) (lawEnv w.params L q)) Q E s := by
  have hz := z.hp
  subst hz
  have Wh := W.kp I.keep
  have e1 : s.heap.IsCell (L + 9) (some (.ref lw)) := c1 ▸ I.cell (Str.ofString "worth", L + 9) (by simp [lawOc])
  have e2 : s.heap.IsCell (L + 14) (some (.ref lh)) := c2 ▸ I.cell (Str.ofString "halves", L + 14) (by simp [lawOc])
  have e3 : s.heap.IsCell (L + 11) (some (.ref ls)) := c3 ▸ I.cell (Str.ofString "shrunk", L + 11) (by simp [lawOc])
  have e4 : s.heap.IsCell (L + 3) (some (.int d t)) := c4 ▸ I.cell (Str.ofString "days", L + 3) (by simp [lawOc])
  have lh' := I.keep.li hh
  have ls' := I.keep.li hs
  refine execs_up (wpAny_If (wpAny_isTrue_BoolOp (wpAny_allTrue_Or_cons (wpAny_isTrue_Compare1 (nC z e1 (by rfl) (nL z I.ns m1 (ne_lp z hu (I.keep.booked hnb) (I.keep.lp hw) (I.keep.lp hd) (wpAny_truthy_bool ?_))))))))
  rw [if_neg (by simp)]
  refine wpAny_allTrue_Or_cons (wpAny_isTrue_Compare1 (nL z I.ns m2 ?_))
  refine cmp (n := 7) (p := fun _ => true) (P := fun i v => IntV v (1 + (i : Int))) (F := fun _ i y _ => FltP y (cv (1 + i))) z (src_of_range (a := 1) (b := 8) hA.h (by decide) (by decide) (by decide) ?src) (by decide) (fun h₀ C kh hC => turn_localP ?tests ?elt) ?hF ?hQ (by rfl) (by decide) (by decide)
  case src =>
    intro E Q hq
    have zs := At.here s
    refine cT zs Wh (by rfl) boot_range (by decide) (wpAny_items_cons (cInt zs fun t₂ s₂ z₂ => wpAny_items_cons (cInt z₂ fun t₃ s₃ z₃ => wpAny_items_nil ?_)))
    exact call_range_2 (hq _ _ _ _ _ (z₃.gr.trans (.keep fun _ _ e => Heap.get?_push_of_some _ e)) (IsRange.new ..))
  case tests => intro i v s m cm E hi hv hm x; exact tests_no (i := i)
  case hF => intro k k' i y h h' _ _ f; exact f
  case elt =>
    intro i v s m cm E hi ⟨tv, hv⟩ hp hm x hup1
    subst hv
    have zc := At.here s
    have ch := x.keep.cell (kh.cell e2)
    have csh := x.keep.cell (kh.cell e3)
    have cd := x.keep.cell (kh.cell e4)
    have lih := x.keep.li (kh.li lh')
    have lis := x.keep.li (kh.li ls')
    have Wc := (Wh.kp kh).kp x.keep
    have ek : ((1 : Int) + (i : Int)) = ((1 + i : Nat) : Int) := by omega
    rw [ek] at hm
    have eg : ((List.range 8).map halfF).getD (1 + i) 0 = halfF (1 + i) := by rw [List.getD_eq_getElem?_getD, List.getElem?_map, List.getElem?_range (by omega)]; rfl
    refine BinOpP (cF zc Wc (by rfl) (by rfl) (wpAny_items_cons (nL zc x.ns hm (wpAny_items_cons (nC zc csh (by rfl) (wpAny_items_nil ⟨_, zc, .refl _, ?_⟩))))))
    refine within_c zc Wc hA lis hsl (by omega) fun h₁ s₁ t₁ z₁ k₁ => ?_
    refine wpAny_BinOp (sLI (nC z₁ (k₁.cell ch) (by rfl) (nL z₁ (k₁.ns x.ns) hm ⟨_, _, lh, _, _, tv, z₁, rfl, rfl, k₁.li lih, by omega, by rw [List.length_map, List.length_range]; omega, by rw [List.length_map, List.length_range]; omega, fun t₂ => ?_⟩)))
    rw [Int.toNat_natCast, eg]
    have hhb : halfF (1 + i) = 1 ∨ halfF (1 + i) = 2 ∨ halfF (1 + i) = 4 ∨ halfF (1 + i) = 8 := by
      have : ∀ a, a < 8 → halfF a = 1 ∨ halfF a = 2 ∨ halfF a = 4 ∨ halfF a = 8 := by decide
      exact this _ (by omega)
    refine wpAny_BinOp (cInt z₁ fun t₃ s₃ z₃ => nC z₃ (k₁.cell cd) (by rfl) (powI z₃ (by omega) (by omega) (by decide) fun t₄ s₄ z₄ => mulI z₄ (mul_small (by omega) (by omega)) fun t₅ s₅ z₅ hup5 => ?_))
    rw [Int.toNat_natCast]
    have hj : halfF (1 + i) * 16 ^ d ≠ 0 := by
      rcases (by omega : d = 1 ∨ d = 2 ∨ d = 3) with rfl | rfl | rfl <;> rcases hhb with e | e | e | e <;> rw [e] <;> decide
    obtain ⟨h1, h2⟩ := hcv (1 + i) (by omega) (by omega)
    exact ndiviiP (Nat.lt_of_lt_of_le hs0 (Nat.le_trans hup1 hup5)) (c := cv (1 + i)) hj h1 h2 fun x t k hu hx => ⟨⟨x, t, rfl, hu, hx⟩, z₅.gr.trans (.tok _ _)⟩
  case hQ =>
    intro D k h₂ s₂ ys z₂ k₂ hD pl pr
    rw [filt_all] at pr
    have I2 := I.kp k₂
    refine ne_lp z₂ hu (I2.keep.booked hnb) (I2.keep.lp ht) ⟨ys, pl, Paired.map (F := fun c y => FltP y c) (fun i => cv (1 + i)) pr⟩ (wpAny_truthy_bool ?_)
    rw [if_neg (by simp)]
    refine wpAny_allTrue_Or_nil ?_
    rw [if_neg (by simp)]
    exact wpAny_execs_nil fun hup => hrest s₂ _ z₂ I2 hup
set_option maxHeartbeats 8000000 in
theorem law_22 (z : At s₀ h s) (W : Wd (Mine.hd.heap_39 w.params) mg mb h₀) (hA : Rm 1 A) (I : Inn h₀ L (lawOc L) m cm [] h) {lw lh : Addr} {cs hs : List Int} {c : Int}
    (c1 : cm (Str.ofString "worth") = some (.ref lw)) (hw : LF h₀ lw cs) (hcl : cs.length = 8) (hb : ∀ c ∈ cs, c.natAbs ≤ 2 ^ 41) (c2 : cm (Str.ofString "heights") = some (.ref lh)) (hh : LI h₀ lh hs) (hhl : hs.length = 8)
    (hsum : cs.sum = c * 8) (hc : 7 * hs.getD 0 0 * 2 ^ 18 = c * 8) (hcb : c.natAbs < 2 ^ 53)
    (hrest : ∀ s' h', At s₀ h' s' → Q (.ret (.bool true)) s') :
    wpAny (model PySem.Challenge.rw_tv0030_01.row.prog w) A (execs ((lawBody w.params).drop 22) (lawEnv w.params L q)) Q E s := by
  have Wh := W.kp I.keep
  have e1 : h.IsCell (L + 9) (some (.ref lw)) := c1 ▸ I.cell (Str.ofString "worth", L + 9) (by simp [lawOc])
  have e2 : h.IsCell (L + 10) (some (.ref lh)) := c2 ▸ I.cell (Str.ofString "heights", L + 10) (by simp [lawOc])
  refine wpAny_execs_cons (wpAny_Return_some (wpAny_Compare1 (cF z Wh (by rfl) (by rfl) (wpAny_items_cons (nC z e1 (by rfl) (wpAny_items_nil ⟨_, z, .refl _, ?_⟩))))))
  refine fmean_1 z Wh hA (I.keep.lf hw) hcl hb hsum fun h₁ s₁ x t z₁ k₁ hx => ?_
  refine wpAny_BinOp (wpAny_BinOp (cInt z₁ fun t₂ s₂ z₂ => sLI (nC z₂ (k₁.cell e2) (by rfl) (cInt z₂ fun t₃ s₃ z₃ => ⟨_, _, lh, hs, 0, t₃, z₃, rfl, rfl, k₁.li (I.keep.li hh), by decide, by omega, by omega, fun t₄ => mulI z₃ (mul_small (by decide) (by decide)) fun t₅ s₅ z₅ => cInt z₅ fun t₆ s₆ z₆ => ?_⟩))))
  refine ndivii (c := c) (by decide) hc hcb fun y u k hy => PySem.AutoFloatOps.eq_0 ?_
  rw [hx.cmp hy, cmp_self]
  exact hrest _ h₁ ⟨z₆.gr.trans (.tok _ _), z₆.hp⟩
end
end Mine
end

section
open PySem PySem.Spec PySem.Calls PySem.W PyProof.Rows
set_option Elab.async false
namespace Mine
set_option maxRecDepth 100000
/-! ## rights -/
theorem rts_ok : ∀ d0, d0 < 12 → ∀ d1, d1 < 11 → ∀ d2, d2 < 10 → ((rtsF d0 d1 d2).all (· < 12) && decide (rtsF d0 d1 d2).Nodup) = true := by decide +kernel
/-! ## bits -/
theorem and_pow (M k : Nat) : M &&& 2 ^ k = (M.testBit k).toNat * 2 ^ k := by
  refine Nat.eq_of_testBit_eq fun i => ?_
  rw [Nat.testBit_and, Nat.testBit_two_pow]
  cases h : M.testBit k with
  | true =>
    rw [Bool.toNat_true, Nat.one_mul, Nat.testBit_two_pow]
    by_cases e : k = i
    · subst e; rw [h]; rfl
    · simp [e]
  | false =>
    rw [Bool.toNat_false, Nat.zero_mul, Nat.zero_testBit]
    by_cases e : k = i
    · subst e; rw [h]; rfl
    · simp [e]
theorem shown_bit (M : Nat) : ∀ r, r < 12 → shownF (rowF M) r = M.testBit r := by
  have p0 : M &&& 1 = (M.testBit 0).toNat * 1 := and_pow M 0
  have p1 : M &&& 2 = (M.testBit 1).toNat * 2 := and_pow M 1
  have p2 : M &&& 4 = (M.testBit 2).toNat * 4 := and_pow M 2
  have p3 : M &&& 8 = (M.testBit 3).toNat * 8 := and_pow M 3
  have p4 : M &&& 16 = (M.testBit 4).toNat * 16 := and_pow M 4
  have p5 : M &&& 32 = (M.testBit 5).toNat * 32 := and_pow M 5
  have p6 : M &&& 64 = (M.testBit 6).toNat * 64 := and_pow M 6
  have p7 : M &&& 128 = (M.testBit 7).toNat * 128 := and_pow M 7
  have p8 : M &&& 256 = (M.testBit 8).toNat * 256 := and_pow M 8
  have p9 : M &&& 512 = (M.testBit 9).toNat * 512 := and_pow M 9
  have p10 : M &&& 1024 = (M.testBit 10).toNat * 1024 := and_pow M 10
  have p11 : M &&& 2048 = (M.testBit 11).toNat * 2048 := and_pow M 11
  have q6 : M &&& 2112 = (M &&& 2048) ||| (M &&& 64) := Nat.and_or_distrib_left M 2048 64
  have q3 : M &&& 1032 = (M &&& 1024) ||| (M &&& 8) := Nat.and_or_distrib_left M 1024 8
  have q0 : M &&& 513 = (M &&& 512) ||| (M &&& 1) := Nat.and_or_distrib_left M 512 1
  have c8 : shownF (rowF M) 8 = inB "rwxst" ⟨#[if (M &&& 256 == 256) = true then 114 else 45]⟩ := rfl
  have c7 : shownF (rowF M) 7 = inB "rwxst" ⟨#[if (M &&& 128 == 128) = true then 119 else 45]⟩ := rfl
  have c6 : shownF (rowF M) 6 = inB "rwxst" ⟨#[if (M &&& 2112 == 2112) = true then 115 else if (M &&& 2048 == 2048) = true then 83 else if (M &&& 64 == 64) = true then 120 else 45]⟩ := rfl
  have c5 : shownF (rowF M) 5 = inB "rwxst" ⟨#[if (M &&& 32 == 32) = true then 114 else 45]⟩ := rfl
  have c4 : shownF (rowF M) 4 = inB "rwxst" ⟨#[if (M &&& 16 == 16) = true then 119 else 45]⟩ := rfl
  have c3 : shownF (rowF M) 3 = inB "rwxst" ⟨#[if (M &&& 1032 == 1032) = true then 115 else if (M &&& 1024 == 1024) = true then 83 else if (M &&& 8 == 8) = true then 120 else 45]⟩ := rfl
  have c2 : shownF (rowF M) 2 = inB "rwxst" ⟨#[if (M &&& 4 == 4) = true then 114 else 45]⟩ := rfl
  have c1 : shownF (rowF M) 1 = inB "rwxst" ⟨#[if (M &&& 2 == 2) = true then 119 else 45]⟩ := rfl
  have c0 : shownF (rowF M) 0 = inB "rwxst" ⟨#[if (M &&& 513 == 513) = true then 116 else if (M &&& 512 == 512) = true then 84 else if (M &&& 1 == 1) = true then 120 else 45]⟩ := rfl
  have c11 : shownF (rowF M) 11 = inB "sStT" ⟨#[if (M &&& 2112 == 2112) = true then 115 else if (M &&& 2048 == 2048) = true then 83 else if (M &&& 64 == 64) = true then 120 else 45]⟩ := rfl
  have c10 : shownF (rowF M) 10 = inB "sStT" ⟨#[if (M &&& 1032 == 1032) = true then 115 else if (M &&& 1024 == 1024) = true then 83 else if (M &&& 8 == 8) = true then 120 else 45]⟩ := rfl
  have c9 : shownF (rowF M) 9 = inB "sStT" ⟨#[if (M &&& 513 == 513) = true then 116 else if (M &&& 512 == 512) = true then 84 else if (M &&& 1 == 1) = true then 120 else 45]⟩ := rfl
  intro r hr
  rcases (lt12 (by omega) : r = 0 ∨ r = 1 ∨ r = 2 ∨ r = 3 ∨ r = 4 ∨ r = 5 ∨ r = 6 ∨ r = 7 ∨ r = 8 ∨ r = 9 ∨ r = 10 ∨ r = 11) with rfl | rfl | rfl | rfl | rfl | rfl | rfl | rfl | rfl | rfl | rfl | rfl
  · rw [c0, q0, p9, p0]; cases M.testBit 9 <;> cases M.testBit 0 <;> decide +kernel
  · rw [c1, p1]; cases M.testBit 1 <;> decide +kernel
  · rw [c2, p2]; cases M.testBit 2 <;> decide +kernel
  · rw [c3, q3, p10, p3]; cases M.testBit 10 <;> cases M.testBit 3 <;> decide +kernel
  · rw [c4, p4]; cases M.testBit 4 <;> decide +kernel
  · rw [c5, p5]; cases M.testBit 5 <;> decide +kernel
  · rw [c6, q6, p11, p6]; cases M.testBit 11 <;> cases M.testBit 6 <;> decide +kernel
  · rw [c7, p7]; cases M.testBit 7 <;> decide +kernel
  · rw [c8, p8]; cases M.testBit 8 <;> decide +kernel
  · rw [c9, q0, p9, p0]; cases M.testBit 9 <;> cases M.testBit 0 <;> decide +kernel
  · rw [c10, q3, p10, p3]; cases M.testBit 10 <;> cases M.testBit 3 <;> decide +kernel
  · rw [c11, q6, p11, p6]; cases M.testBit 11 <;> cases M.testBit 6 <;> decide +kernel
theorem row_len (M : Nat) : (rowF M).length = 10 := by
  show (rowL M).toArray.size = 10
  simp [rowL]
/-- the number M with its bit r made c -/
def setB (M r c : Nat) : Nat := M - M / 2 ^ r % 2 * 2 ^ r + c * 2 ^ r
theorem setB_le (M r : Nat) : M / 2 ^ r % 2 * 2 ^ r ≤ M := Nat.le_trans (Nat.mul_le_mul_right _ (Nat.mod_le _ _)) (Nat.div_mul_le_self _ _)
theorem setB_bit (M r c : Nat) (hc : c < 2) (j : Nat) : (setB M r c).testBit j = if j = r then decide (c = 1) else M.testBit j := by
  have hp : 0 < 2 ^ r := Nat.two_pow_pos r
  have e1 : M = 2 ^ r * (2 * (M / 2 ^ r / 2) + M / 2 ^ r % 2) + M % 2 ^ r := by
    rw [Nat.div_add_mod, Nat.div_add_mod]
  have hlo : M % 2 ^ r < 2 ^ r := Nat.mod_lt _ hp
  have hb : M / 2 ^ r % 2 < 2 := Nat.mod_lt _ (by decide)
  have e2 : setB M r c = 2 ^ r * (2 * (M / 2 ^ r / 2) + c) + M % 2 ^ r := by
    unfold setB
    generalize M / 2 ^ r % 2 = b at e1 hb
    generalize M / 2 ^ r / 2 = q at e1
    generalize M % 2 ^ r = lo at e1
    generalize 2 ^ r = P at e1
    have h1 : P * (2 * q + b) = P * (2 * q) + P * b := Nat.mul_add ..
    have h2 : P * (2 * q + c) = P * (2 * q) + P * c := Nat.mul_add ..
    have h3 : b * P = P * b := Nat.mul_comm ..
    have h4 : c * P = P * c := Nat.mul_comm ..
    omega
  have e3 : M.testBit j = if j < r then (M % 2 ^ r).testBit j else (2 * (M / 2 ^ r / 2) + M / 2 ^ r % 2).testBit (j - r) := by
    rw [← Nat.testBit_two_pow_mul_add _ hlo, ← e1]
  rw [e2, Nat.testBit_two_pow_mul_add _ hlo, e3]
  by_cases h : j < r
  · rw [if_pos h, if_pos h, if_neg (by omega)]
  · rw [if_neg h, if_neg h]
    by_cases h' : j = r
    · subst h'
      rw [if_pos rfl, Nat.sub_self, Nat.testBit_zero]
      congr 1
      have : (2 * (M / 2 ^ j / 2) + c) % 2 = c := by omega
      rw [this]
    · rw [if_neg h']
      obtain ⟨i, hi⟩ : ∃ i, j - r = i + 1 := ⟨j - r - 1, by omega⟩
      rw [hi, Nat.testBit_succ, Nat.testBit_succ]
      congr 1
      omega
theorem bit_of (M r : Nat) : M / 2 ^ r % 2 = (M.testBit r).toNat := by
  rw [Nat.testBit_eq_decide_div_mod_eq]
  have : M / 2 ^ r % 2 < 2 := Nat.mod_lt _ (by decide)
  by_cases h : M / 2 ^ r % 2 = 1
  · rw [decide_eq_true h, h]; rfl
  · rw [decide_eq_false h]; show _ = 0; omega
theorem offF_nat (N r : Nat) : offF (N : Int) r = ((N / 2 ^ r % 2 * 2 ^ r : Nat) : Int) := by
  unfold offF
  have e : (2 : Int) ^ r = ((2 ^ r : Nat) : Int) := by push_cast; rfl
  rw [e, show ((N : Int).fdiv ((2 ^ r : Nat) : Int)) = ((N / 2 ^ r : Nat) : Int) from by rw [Int.fdiv_eq_ediv_of_nonneg _ (Int.natCast_nonneg _)]; rfl]
  rw [show (((N / 2 ^ r : Nat) : Int).fmod 2) = ((N / 2 ^ r % 2 : Nat) : Int) from by rw [Int.fmod_eq_emod_of_nonneg _ (by decide)]; rfl]
  push_cast
  rfl
theorem plus_eq (r0 r1 r2 : Nat) : ∀ a, a < 8 → plusF [r0, r1, r2] a = ((a.testBit 0).toNat * 2 ^ r0 + (a.testBit 1).toNat * 2 ^ r1 + (a.testBit 2).toNat * 2 ^ r2 : Nat) := by
  intro a ha
  unfold plusF
  rcases (lt8 (by omega) : a = 0 ∨ a = 1 ∨ a = 2 ∨ a = 3 ∨ a = 4 ∨ a = 5 ∨ a = 6 ∨ a = 7) with rfl | rfl | rfl | rfl | rfl | rfl | rfl | rfl
  · rw [show (List.range 3).filter (bitF 0) = [] from by decide]; simp [Nat.testBit]
  · rw [show (List.range 3).filter (bitF 1) = [0] from by decide]; simp [Nat.testBit]
  · rw [show (List.range 3).filter (bitF 2) = [1] from by decide]; simp [Nat.testBit]
  · rw [show (List.range 3).filter (bitF 3) = [0, 1] from by decide]; simp [Nat.testBit]
  · rw [show (List.range 3).filter (bitF 4) = [2] from by decide]; simp [Nat.testBit]
  · rw [show (List.range 3).filter (bitF 5) = [0, 2] from by decide]; simp [Nat.testBit]
  · rw [show (List.range 3).filter (bitF 6) = [1, 2] from by decide]; simp [Nat.testBit]
  · rw [show (List.range 3).filter (bitF 7) = [0, 1, 2] from by decide]; simp [Nat.testBit]; omega
theorem modes (N r0 r1 r2 : Nat) (h01 : r0 ≠ r1) (h02 : r0 ≠ r2) (h12 : r1 ≠ r2) :
    ∃ Ms : Nat → Nat, (∀ a, a < 8 → ((N : Int) - ([r0, r1, r2].map (offF N)).sum) + plusF [r0, r1, r2] a = Ms a) ∧ ∀ a, a < 8 → ∀ k, k < 3 → (Ms a).testBit ([r0, r1, r2].getD k 0) = a.testBit k := by
  refine ⟨fun a => setB (setB (setB N r0 (a.testBit 0).toNat) r1 (a.testBit 1).toNat) r2 (a.testBit 2).toNat, fun a ha => ?_, fun a ha k hk => ?_⟩
  · have c0 : (a.testBit 0).toNat < 2 := by cases a.testBit 0 <;> decide
    have c1 : (a.testBit 1).toNat < 2 := by cases a.testBit 1 <;> decide
    rw [plus_eq r0 r1 r2 a ha]
    show _ = ((setB (setB (setB N r0 (a.testBit 0).toNat) r1 (a.testBit 1).toNat) r2 (a.testBit 2).toNat : Nat) : Int)
    generalize (a.testBit 0).toNat = u0 at c0
    generalize (a.testBit 1).toNat = u1 at c1
    generalize (a.testBit 2).toNat = u2
    have e1 : setB N r0 u0 / 2 ^ r1 % 2 = N / 2 ^ r1 % 2 := by rw [bit_of, bit_of, setB_bit _ _ _ c0, if_neg (Ne.symm h01)]
    have e2 : setB (setB N r0 u0) r1 u1 / 2 ^ r2 % 2 = N / 2 ^ r2 % 2 := by rw [bit_of, bit_of, setB_bit _ _ _ c1, if_neg (Ne.symm h12), setB_bit _ _ _ c0, if_neg (Ne.symm h02)]
    have l0 := setB_le N r0
    have l1 := setB_le (setB N r0 u0) r1
    have l2 := setB_le (setB (setB N r0 u0) r1 u1) r2
    simp only [List.map_cons, List.map_nil, List.sum_cons, List.sum_nil, offF_nat]
    rw [e1] at l1
    rw [e2] at l2
    have s2 : setB (setB (setB N r0 u0) r1 u1) r2 u2 = setB (setB N r0 u0) r1 u1 - N / 2 ^ r2 % 2 * 2 ^ r2 + u2 * 2 ^ r2 := by rw [setB, e2]
    have s1 : setB (setB N r0 u0) r1 u1 = setB N r0 u0 - N / 2 ^ r1 % 2 * 2 ^ r1 + u1 * 2 ^ r1 := by rw [setB, e1]
    have s0 : setB N r0 u0 = N - N / 2 ^ r0 % 2 * 2 ^ r0 + u0 * 2 ^ r0 := rfl
    rw [s2]
    generalize setB (setB N r0 u0) r1 u1 = M2 at *
    generalize setB N r0 u0 = M1 at *
    generalize N / 2 ^ r0 % 2 * 2 ^ r0 = y0 at *
    generalize N / 2 ^ r1 % 2 * 2 ^ r1 = y1 at *
    generalize N / 2 ^ r2 % 2 * 2 ^ r2 = y2 at *
    generalize u0 * 2 ^ r0 = v0 at *
    generalize u1 * 2 ^ r1 = v1 at *
    generalize u2 * 2 ^ r2 = v2 at *
    omega
  · have c0 : (a.testBit 0).toNat < 2 := by cases a.testBit 0 <;> decide
    have c1 : (a.testBit 1).toNat < 2 := by cases a.testBit 1 <;> decide
    have c2 : (a.testBit 2).toNat < 2 := by cases a.testBit 2 <;> decide
    have eb : ∀ b : Bool, decide (b.toNat = 1) = b := by intro b; cases b <;> rfl
    rcases (by omega : k = 0 ∨ k = 1 ∨ k = 2) with rfl | rfl | rfl
    · show (setB _ r2 _).testBit r0 = _
      rw [setB_bit _ _ _ c2, if_neg h02, setB_bit _ _ _ c1, if_neg h01, setB_bit _ _ _ c0, if_pos rfl, eb]
    · show (setB _ r2 _).testBit r1 = _
      rw [setB_bit _ _ _ c2, if_neg h12, setB_bit _ _ _ c1, if_pos rfl, eb]
    · show (setB _ r2 _).testBit r2 = _
      rw [setB_bit _ _ _ c2, if_pos rfl, eb]
theorem shown_sum {rs : List Nat} {Ms : Nat → Nat} (hr : ∀ k, k < 3 → rs.getD k 0 < 12) (hM : ∀ a, a < 8 → ∀ k, k < 3 → (Ms a).testBit (rs.getD k 0) = a.testBit k) (a : Nat) (ha : a < 8) : sumShown rs (rowF (Ms a)) = a := by
  unfold sumShown
  have e : (List.range 3).filter (fun k => shownF (rowF (Ms a)) (rs.getD k 0)) = (List.range 3).filter fun k => a.testBit k := by
    refine List.filter_congr fun k hk => ?_
    rw [List.mem_range] at hk
    rw [shown_bit _ _ (hr k hk), hM a ha k hk]
  rw [e]
  clear e hM
  rcases (lt8 (by omega) : a = 0 ∨ a = 1 ∨ a = 2 ∨ a = 3 ∨ a = 4 ∨ a = 5 ∨ a = 6 ∨ a = 7) with rfl | rfl | rfl | rfl | rfl | rfl | rfl | rfl <;> decide
theorem rows_nodup {rs : List Nat} {Ms : Nat → Nat} (hs : ∀ a, a < 8 → sumShown rs (rowF (Ms a)) = a) : ((List.range 8).map fun a => rowF (Ms a)).Nodup := by
  refine List.pairwise_map.mpr (List.Pairwise.imp_of_mem (R := (· ≠ ·)) (fun {a b} ha hb hab e => ?_) List.nodup_range)
  rw [List.mem_range] at ha hb
  have h1 := hs a ha
  rw [e, hs b hb] at h1
  exact hab (Int.ofNat.inj h1).symm
end Mine
end

section
open PySem PySem.Spec PySem.Calls PySem.W PyProof.Rows
set_option Elab.async false
namespace Mine
set_option maxRecDepth 100000
/-! ## the walk on the cube -/
theorem back_at (X : Nat → Int) : backF X 0 = X 0 + X 1 + X 2 + X 3 + X 4 + X 5 + X 6 + X 7 ∧ backF X 1 = X 0 - X 1 + X 2 - X 3 + X 4 - X 5 + X 6 - X 7 ∧ backF X 2 = X 0 + X 1 - X 2 - X 3 + X 4 + X 5 - X 6 - X 7 ∧ backF X 3 = X 0 - X 1 - X 2 + X 3 + X 4 - X 5 - X 6 + X 7 ∧
    backF X 4 = X 0 + X 1 + X 2 + X 3 - X 4 - X 5 - X 6 - X 7 ∧ backF X 5 = X 0 - X 1 + X 2 - X 3 - X 4 + X 5 - X 6 + X 7 ∧ backF X 6 = X 0 + X 1 - X 2 - X 3 - X 4 - X 5 + X 6 + X 7 ∧ backF X 7 = X 0 - X 1 - X 2 + X 3 - X 4 + X 5 + X 6 - X 7 := by
  refine ⟨?_, ?_, ?_, ?_, ?_, ?_, ?_, ?_⟩
  · show 1 * X 0 + (1 * X 1 + (1 * X 2 + (1 * X 3 + (1 * X 4 + (1 * X 5 + (1 * X 6 + (1 * X 7 + 0))))))) = _; omega
  · show 1 * X 0 + (-1 * X 1 + (1 * X 2 + (-1 * X 3 + (1 * X 4 + (-1 * X 5 + (1 * X 6 + (-1 * X 7 + 0))))))) = _; omega
  · show 1 * X 0 + (1 * X 1 + (-1 * X 2 + (-1 * X 3 + (1 * X 4 + (1 * X 5 + (-1 * X 6 + (-1 * X 7 + 0))))))) = _; omega
  · show 1 * X 0 + (-1 * X 1 + (-1 * X 2 + (1 * X 3 + (1 * X 4 + (-1 * X 5 + (-1 * X 6 + (1 * X 7 + 0))))))) = _; omega
  · show 1 * X 0 + (1 * X 1 + (1 * X 2 + (1 * X 3 + (-1 * X 4 + (-1 * X 5 + (-1 * X 6 + (-1 * X 7 + 0))))))) = _; omega
  · show 1 * X 0 + (-1 * X 1 + (1 * X 2 + (-1 * X 3 + (-1 * X 4 + (1 * X 5 + (-1 * X 6 + (1 * X 7 + 0))))))) = _; omega
  · show 1 * X 0 + (1 * X 1 + (-1 * X 2 + (-1 * X 3 + (-1 * X 4 + (-1 * X 5 + (1 * X 6 + (1 * X 7 + 0))))))) = _; omega
  · show 1 * X 0 + (-1 * X 1 + (-1 * X 2 + (1 * X 3 + (-1 * X 4 + (1 * X 5 + (1 * X 6 + (-1 * X 7 + 0))))))) = _; omega
theorem high_back (f : List Int) (a : Nat) (ha : a < 8) : highF f a = backF (fun b => f.getD b 0) a := by
  unfold highF backF
  congr 1
  refine List.map_congr_left fun b _ => ?_
  rw [Nat.and_comm]
theorem weight_at (w0 w1 w2 : Int) : weightF 0 [w0, w1, w2] = 0 ∧ weightF 1 [w0, w1, w2] = w0 ∧ weightF 2 [w0, w1, w2] = w1 ∧ weightF 3 [w0, w1, w2] = w0 + w1 ∧ weightF 4 [w0, w1, w2] = w2 ∧ weightF 5 [w0, w1, w2] = w0 + w2 ∧ weightF 6 [w0, w1, w2] = w1 + w2 ∧ weightF 7 [w0, w1, w2] = w0 + w1 + w2 := by
  unfold weightF
  refine ⟨?_, ?_, ?_, ?_, ?_, ?_, ?_, ?_⟩
  · rw [show (List.range 3).filter (bitF 0) = [] from by decide]; rfl
  · rw [show (List.range 3).filter (bitF 1) = [0] from by decide]; simp
  · rw [show (List.range 3).filter (bitF 2) = [1] from by decide]; simp
  · rw [show (List.range 3).filter (bitF 3) = [0, 1] from by decide]; simp
  · rw [show (List.range 3).filter (bitF 4) = [2] from by decide]; simp
  · rw [show (List.range 3).filter (bitF 5) = [0, 2] from by decide]; simp
  · rw [show (List.range 3).filter (bitF 6) = [1, 2] from by decide]; simp
  · rw [show (List.range 3).filter (bitF 7) = [0, 1, 2] from by decide]; simp; omega
/-- one day: the heights shrink -/
theorem day_step (X : Nat → Int) (w0 w1 w2 : Int) : ∀ s, s < 8 → (16 - (w0 + w1 + w2)) * backF X s + w0 * backF X (s ^^^ 1) + w1 * backF X (s ^^^ 2) + w2 * backF X (s ^^^ 4) = backF (fun k => X k * (16 - 2 * weightF k [w0, w1, w2])) s := by
  intro s hs
  obtain ⟨a0, a1, a2, a3, a4, a5, a6, a7⟩ := back_at X
  obtain ⟨b0, b1, b2, b3, b4, b5, b6, b7⟩ := back_at fun k => X k * (16 - 2 * weightF k [w0, w1, w2])
  obtain ⟨v0, v1, v2, v3, v4, v5, v6, v7⟩ := weight_at w0 w1 w2
  simp only [v0, v1, v2, v3, v4, v5, v6, v7] at b0 b1 b2 b3 b4 b5 b6 b7
  rcases (lt8 (by omega) : s = 0 ∨ s = 1 ∨ s = 2 ∨ s = 3 ∨ s = 4 ∨ s = 5 ∨ s = 6 ∨ s = 7) with rfl | rfl | rfl | rfl | rfl | rfl | rfl | rfl
  · rw [show (0 ^^^ 1 : Nat) = 1 from rfl, show (0 ^^^ 2 : Nat) = 2 from rfl, show (0 ^^^ 4 : Nat) = 4 from rfl, a0, a1, a2, a4, b0]; grind
  · rw [show (1 ^^^ 1 : Nat) = 0 from rfl, show (1 ^^^ 2 : Nat) = 3 from rfl, show (1 ^^^ 4 : Nat) = 5 from rfl, a1, a0, a3, a5, b1]; grind
  · rw [show (2 ^^^ 1 : Nat) = 3 from rfl, show (2 ^^^ 2 : Nat) = 0 from rfl, show (2 ^^^ 4 : Nat) = 6 from rfl, a2, a3, a0, a6, b2]; grind
  · rw [show (3 ^^^ 1 : Nat) = 2 from rfl, show (3 ^^^ 2 : Nat) = 1 from rfl, show (3 ^^^ 4 : Nat) = 7 from rfl, a3, a2, a1, a7, b3]; grind
  · rw [show (4 ^^^ 1 : Nat) = 5 from rfl, show (4 ^^^ 2 : Nat) = 6 from rfl, show (4 ^^^ 4 : Nat) = 0 from rfl, a4, a5, a6, a0, b4]; grind
  · rw [show (5 ^^^ 1 : Nat) = 4 from rfl, show (5 ^^^ 2 : Nat) = 7 from rfl, show (5 ^^^ 4 : Nat) = 1 from rfl, a5, a4, a7, a1, b5]; grind
  · rw [show (6 ^^^ 1 : Nat) = 7 from rfl, show (6 ^^^ 2 : Nat) = 4 from rfl, show (6 ^^^ 4 : Nat) = 2 from rfl, a6, a7, a4, a2, b6]; grind
  · rw [show (7 ^^^ 1 : Nat) = 6 from rfl, show (7 ^^^ 2 : Nat) = 5 from rfl, show (7 ^^^ 4 : Nat) = 3 from rfl, a7, a6, a5, a3, b7]; grind
theorem back_high (f : List Int) : ∀ a, a < 8 → backF (highF f) a = 8 * f.getD a 0 := by
  obtain ⟨a0, a1, a2, a3, a4, a5, a6, a7⟩ := back_at (highF f)
  obtain ⟨b0, b1, b2, b3, b4, b5, b6, b7⟩ := back_at fun b => f.getD b 0
  rw [high_back f 0 (by decide), high_back f 1 (by decide), high_back f 2 (by decide), high_back f 3 (by decide), high_back f 4 (by decide), high_back f 5 (by decide), high_back f 6 (by decide), high_back f 7 (by decide), b0, b1, b2, b3, b4, b5, b6, b7] at a0 a1 a2 a3 a4 a5 a6 a7
  intro a ha
  rcases (lt8 (by omega) : a = 0 ∨ a = 1 ∨ a = 2 ∨ a = 3 ∨ a = 4 ∨ a = 5 ∨ a = 6 ∨ a = 7) with rfl | rfl | rfl | rfl | rfl | rfl | rfl | rfl <;> omega
theorem back_congr {X Y : Nat → Int} (h : ∀ k, k < 8 → X k = Y k) (a : Nat) : backF X a = backF Y a := by
  unfold backF
  congr 1
  refine List.map_congr_left fun b hb => ?_
  rw [h b (List.mem_range.mp hb)]
theorem days_back (f : List Int) (hf : f.length = 8) (w0 w1 w2 : Int) : ∀ (d a : Nat), a < 8 → 8 * (daysF (shF [w0, w1, w2]) (f.map (7 * ·)) d).getD a 0 = 7 * backF (shrF f [w0, w1, w2] d) a
  | 0, a, ha => by
    show 8 * (f.map (7 * ·)).getD a 0 = _
    have e : (f.map (7 * ·)).getD a 0 = 7 * f.getD a 0 := by
      rw [List.getD_eq_getElem?_getD, List.getD_eq_getElem?_getD, List.getElem?_map, List.getElem?_eq_getElem (by omega)]; rfl
    have e2 : backF (shrF f [w0, w1, w2] 0) a = backF (highF f) a := back_congr (fun k _ => by unfold shrF; rw [Int.pow_zero, Int.mul_one]) a
    rw [e, e2, back_high f a ha]
    omega
  | d + 1, a, ha => by
    have e1 : (daysF (shF [w0, w1, w2]) (f.map (7 * ·)) (d + 1)).getD a 0 = (dots (pickF (daysF (shF [w0, w1, w2]) (f.map (7 * ·)) d) a) (shF [w0, w1, w2])).sum := by
      show ((List.range 8).map fun s => (dots (pickF (daysF (shF [w0, w1, w2]) (f.map (7 * ·)) d) s) (shF [w0, w1, w2])).sum).getD a 0 = _
      rw [List.getD_eq_getElem?_getD, List.getElem?_map, List.getElem?_range ha]
      rfl
    rw [e1]
    have h0 := days_back f hf w0 w1 w2 d a ha
    have h1 := days_back f hf w0 w1 w2 d (a ^^^ 1) (bitXor_small ha (.inl rfl)).2
    have h2 := days_back f hf w0 w1 w2 d (a ^^^ 2) (bitXor_small ha (.inr (.inl rfl))).2
    have h4 := days_back f hf w0 w1 w2 d (a ^^^ 4) (bitXor_small ha (.inr (.inr rfl))).2
    have h5 := day_step (shrF f [w0, w1, w2] d) w0 w1 w2 a ha
    have h6 : backF (shrF f [w0, w1, w2] (d + 1)) a = backF (fun k => shrF f [w0, w1, w2] d k * (16 - 2 * weightF k [w0, w1, w2])) a := back_congr (fun k _ => by
      unfold shrF; rw [Int.pow_succ, Int.mul_assoc]) a
    rw [h6, ← h5]
    show 8 * ((daysF (shF [w0, w1, w2]) (f.map (7 * ·)) d).getD a 0 * (16 - (w0 + (w1 + (w2 + 0)))) + ((daysF (shF [w0, w1, w2]) (f.map (7 * ·)) d).getD (a ^^^ 1) 0 * w0 + ((daysF (shF [w0, w1, w2]) (f.map (7 * ·)) d).getD (a ^^^ 2) 0 * w1 + ((daysF (shF [w0, w1, w2]) (f.map (7 * ·)) d).getD (a ^^^ 4) 0 * w2 + 0)))) = _
    generalize (daysF (shF [w0, w1, w2]) (f.map (7 * ·)) d).getD a 0 = g0 at *
    generalize (daysF (shF [w0, w1, w2]) (f.map (7 * ·)) d).getD (a ^^^ 1) 0 = g1 at *
    generalize (daysF (shF [w0, w1, w2]) (f.map (7 * ·)) d).getD (a ^^^ 2) 0 = g2 at *
    generalize (daysF (shF [w0, w1, w2]) (f.map (7 * ·)) d).getD (a ^^^ 4) 0 = g4 at *
    generalize backF (shrF f [w0, w1, w2] d) a = b0 at *
    generalize backF (shrF f [w0, w1, w2] d) (a ^^^ 1) = b1 at *
    generalize backF (shrF f [w0, w1, w2] d) (a ^^^ 2) = b2 at *
    generalize backF (shrF f [w0, w1, w2] d) (a ^^^ 4) = b4 at *
    clear e1 h5 h6
    grind
end Mine
end

section
open PySem PySem.Spec PySem.Calls PySem.W PyProof.Rows
set_option Elab.async false
namespace Mine
set_option maxRecDepth 100000
theorem list8 {l : List Int} (h : l.length = 8) : (List.range 8).map (fun i => l.getD i 0) = l := by
  have := map_getD8 (fun x : Int => x) 0 h
  simpa using this
theorem worth_eq (f : List Int) (hf : f.length = 8) (w0 w1 w2 : Int) {d : Nat} (hd : 0 < d) (hd3 : d ≤ 3) :
    scale d (daysF (shF [w0, w1, w2]) (f.map (7 * ·)) d) = (List.range 8).map (dueF (shrF f [w0, w1, w2] d) d) := by
  have hl : (scale d (daysF (shF [w0, w1, w2]) (f.map (7 * ·)) d)).length = 8 := by rw [scale_len, daysF_len (by rw [List.length_map]; exact hf)]
  rw [← list8 hl]
  refine List.map_congr_left fun a ha => ?_
  rw [List.mem_range] at ha
  rw [scale_getD]
  have h := days_back f hf w0 w1 w2 d a ha
  unfold dueF
  rw [← h]
  have e : (2 : Int) ^ (18 - 4 * d) = 8 * 2 ^ (15 - 4 * d) := by
    rcases (by omega : d = 1 ∨ d = 2 ∨ d = 3) with rfl | rfl | rfl <;> decide
  rw [e]
  generalize (2 : Int) ^ (15 - 4 * d) = P
  generalize (daysF (shF [w0, w1, w2]) (f.map (7 * ·)) d).getD a 0 = g
  grind
theorem worth_bd (f : List Int) (w0 w1 w2 : Int) (hS : Sh (shF [w0, w1, w2])) (hB : ∀ x ∈ f, x.natAbs ≤ 2 ^ 19) {d : Nat} (hd : 0 < d) (hd3 : d ≤ 3) :
    ∀ c ∈ scale d (daysF (shF [w0, w1, w2]) (f.map (7 * ·)) d), c.natAbs ≤ 2 ^ 41 := by
  intro c hc
  obtain ⟨g, hg, rfl⟩ := List.mem_map.mp hc
  have h1 := daysF_le (B := 7 * 2 ^ 19) hS (f := f.map (7 * ·)) (fun x hx => by
    obtain ⟨y, hy, rfl⟩ := List.mem_map.mp hx
    have := hB y hy
    omega) d g hg
  rw [Int.natAbs_mul]
  rcases (by omega : d = 1 ∨ d = 2 ∨ d = 3) with rfl | rfl | rfl
  · exact Nat.le_trans (Nat.mul_le_mul h1 (Nat.le_refl _)) (by decide)
  · exact Nat.le_trans (Nat.mul_le_mul h1 (Nat.le_refl _)) (by decide)
  · exact Nat.le_trans (Nat.mul_le_mul h1 (Nat.le_refl _)) (by decide)
theorem getD_le {f : List Int} {B : Nat} (hB : ∀ x ∈ f, x.natAbs ≤ B) (j : Nat) : (f.getD j 0).natAbs ≤ B := by
  rw [List.getD_eq_getElem?_getD]
  cases e : f[j]? with
  | none => exact Nat.zero_le _
  | some y => exact hB y (List.mem_of_getElem? e)
theorem high_bd {f : List Int} (hB : ∀ x ∈ f, x.natAbs ≤ 2 ^ 19) (a : Nat) : (highF f a).natAbs ≤ 2 ^ 22 := by
  have h := natAbs_sum_le (cs := (List.range 8).map fun b => sg (a &&& b) * f.getD b 0) (M := 2 ^ 19) fun c hc => by
    obtain ⟨b, _, rfl⟩ := List.mem_map.mp hc
    have h1 := sg_bound (a &&& b)
    have h2 := getD_le hB b
    rw [Int.natAbs_mul]
    have h3 : (sg (a &&& b)).natAbs ≤ 1 := by omega
    exact Nat.le_trans (Nat.mul_le_mul h3 h2) (by decide)
  rw [List.length_map, List.length_range] at h
  exact h
theorem weight_bd {w0 w1 w2 : Int} (h0 : 0 ≤ w0 ∧ w0 ≤ 5) (h1 : 0 ≤ w1 ∧ w1 ≤ 5) (h2 : 0 ≤ w2 ∧ w2 ≤ 5) : ∀ a, a < 8 → (weightF a [w0, w1, w2]).natAbs ≤ 16 ∧ (16 - 2 * weightF a [w0, w1, w2]).natAbs ≤ 16 := by
  obtain ⟨v0, v1, v2, v3, v4, v5, v6, v7⟩ := weight_at w0 w1 w2
  intro a ha
  rcases (lt8 (by omega) : a = 0 ∨ a = 1 ∨ a = 2 ∨ a = 3 ∨ a = 4 ∨ a = 5 ∨ a = 6 ∨ a = 7) with rfl | rfl | rfl | rfl | rfl | rfl | rfl | rfl <;> omega
theorem shr_bd {f : List Int} {w0 w1 w2 : Int} (hB : ∀ x ∈ f, x.natAbs ≤ 2 ^ 19) (h0 : 0 ≤ w0 ∧ w0 ≤ 5) (h1 : 0 ≤ w1 ∧ w1 ≤ 5) (h2 : 0 ≤ w2 ∧ w2 ≤ 5) {d : Nat} (hd3 : d ≤ 3) : ∀ a, a < 8 → (shrF f [w0, w1, w2] d a).natAbs ≤ 2 ^ 34 := by
  intro a ha
  unfold shrF
  rw [Int.natAbs_mul, Int.natAbs_pow]
  have h3 := high_bd hB a
  have h4 := (weight_bd h0 h1 h2 a ha).2
  have h5 : (16 - 2 * weightF a [w0, w1, w2]).natAbs ^ d ≤ 2 ^ 12 := Nat.le_trans (Nat.pow_le_pow_left h4 d) (Nat.le_trans (Nat.pow_le_pow_right (by decide) hd3) (by decide))
  exact Nat.le_trans (Nat.mul_le_mul h3 h5) (by decide)
theorem perm_sum {l l' : List Int} (h : l.Perm l') : l.sum = l'.sum := by
  induction h with
  | nil => rfl
  | cons x _ ih => rw [List.sum_cons, List.sum_cons, ih]
  | swap x y l => rw [List.sum_cons, List.sum_cons, List.sum_cons, List.sum_cons]; omega
  | trans _ _ ih1 ih2 => exact ih1.trans ih2
theorem sum8 (g : Nat → Int) : ((List.range 8).map g).sum = g 0 + g 1 + g 2 + g 3 + g 4 + g 5 + g 6 + g 7 := by
  show g 0 + (g 1 + (g 2 + (g 3 + (g 4 + (g 5 + (g 6 + (g 7 + 0))))))) = _
  omega
theorem perm8 {is : List Nat} (hp : is.Perm (List.range 8)) (g : Nat → Int) : (is.map g).sum = g 0 + g 1 + g 2 + g 3 + g 4 + g 5 + g 6 + g 7 := by
  rw [perm_sum (hp.map g), sum8]
theorem perm_at {is : List Nat} (hp : is.Perm (List.range 8)) {j : Nat} (hj : j < 8) : is.getD j 0 < 8 := by
  have hl : is.length = 8 := by rw [hp.length_eq, List.length_range]
  rw [List.getD_eq_getElem?_getD, List.getElem?_eq_getElem (by omega)]
  exact List.mem_range.mp (hp.mem_iff.mp (List.getElem_mem _))
theorem getD_map8 {is : List Nat} (hl : is.length = 8) (g : Nat → Int) {j : Nat} (hj : j < 8) : (is.map g).getD j 0 = g (is.getD j 0) := by
  rw [List.getD_eq_getElem?_getD, List.getElem?_map, List.getD_eq_getElem?_getD, List.getElem?_eq_getElem (by omega)]
  rfl
theorem due_sum {is : List Nat} (hp : is.Perm (List.range 8)) (X : Nat → Int) (d : Nat) : (is.map (dueF X d)).sum = 7 * X 0 * 2 ^ (15 - 4 * d) * 8 := by
  rw [perm8 hp]
  obtain ⟨a0, a1, a2, a3, a4, a5, a6, a7⟩ := back_at X
  unfold dueF
  rw [a0, a1, a2, a3, a4, a5, a6, a7]
  generalize (2 : Int) ^ (15 - 4 * d) = P
  grind
theorem within_at (X : Nat → Int) : withinF 1 ((List.range 8).map X) = -X 1 ∧ withinF 2 ((List.range 8).map X) = -X 2 ∧ withinF 3 ((List.range 8).map X) = -X 1 - X 2 + X 3 ∧ withinF 4 ((List.range 8).map X) = -X 4 ∧ withinF 5 ((List.range 8).map X) = -X 1 - X 4 + X 5 ∧
    withinF 6 ((List.range 8).map X) = -X 2 - X 4 + X 6 ∧ withinF 7 ((List.range 8).map X) = -X 1 - X 2 + X 3 - X 4 + X 5 + X 6 - X 7 := by
  unfold withinF
  refine ⟨?_, ?_, ?_, ?_, ?_, ?_, ?_⟩
  · rw [show (List.range 1).filter (inF 1) = [0] from by decide]; show -1 * X 1 + 0 = _; omega
  · rw [show (List.range 2).filter (inF 2) = [1] from by decide]; show -1 * X 2 + 0 = _; omega
  · rw [show (List.range 3).filter (inF 3) = [0, 1, 2] from by decide]; show -1 * X 1 + (-1 * X 2 + (1 * X 3 + 0)) = _; omega
  · rw [show (List.range 4).filter (inF 4) = [3] from by decide]; show -1 * X 4 + 0 = _; omega
  · rw [show (List.range 5).filter (inF 5) = [0, 3, 4] from by decide]; show -1 * X 1 + (-1 * X 4 + (1 * X 5 + 0)) = _; omega
  · rw [show (List.range 6).filter (inF 6) = [1, 3, 5] from by decide]; show -1 * X 2 + (-1 * X 4 + (1 * X 6 + 0)) = _; omega
  · rw [show (List.range 7).filter (inF 7) = [0, 1, 2, 3, 4, 5, 6] from by decide]; show -1 * X 1 + (-1 * X 2 + (1 * X 3 + (-1 * X 4 + (1 * X 5 + (1 * X 6 + (-1 * X 7 + 0)))))) = _; omega
def covV (X : Nat → Int) (d k : Nat) : Int := withinF k ((List.range 8).map X) * (2 ^ (6 - (weightF k [1, 1, 1]).toNat) * 2 ^ (12 - 4 * d))
theorem cov_sum {is : List Nat} (hp : is.Perm (List.range 8)) (X : Nat → Int) {d : Nat} (hd : 0 < d) (hd3 : d ≤ 3) : ∀ k, 1 ≤ k → k < 8 → ∃ ds : List Int, ds.length = 8 ∧
    (∀ j, j < 8 → (8 * (is.map (maskI k)).getD j 0 - (is.map (maskI k)).sum) * ((is.map (dueF X d)).getD j 0 - 7 * X 0 * 2 ^ (15 - 4 * d)) = ds.getD j 0 * 8) ∧ ds.sum = covV X d k * 7 := by
  intro k hk hk8
  have hl : is.length = 8 := by rw [hp.length_eq, List.length_range]
  have e15 : (2 : Int) ^ (15 - 4 * d) = 2 ^ (12 - 4 * d) * 8 := by
    rcases (by omega : d = 1 ∨ d = 2 ∨ d = 3) with rfl | rfl | rfl <;> decide
  refine ⟨is.map fun a => (8 * maskI k a - (is.map (maskI k)).sum) * (7 * backF X a * 2 ^ (12 - 4 * d) - 7 * X 0 * 2 ^ (12 - 4 * d)), by rw [List.length_map]; exact hl, fun j hj => ?_, ?_⟩
  · rw [getD_map8 hl _ hj, getD_map8 hl _ hj, getD_map8 hl _ hj]
    unfold dueF
    rw [e15]
    generalize (2 : Int) ^ (12 - 4 * d) = P
    generalize backF X (is.getD j 0) = B
    generalize maskI k (is.getD j 0) = m
    generalize (is.map (maskI k)).sum = n
    grind
  · rw [perm8 hp, perm8 hp]
    obtain ⟨a0, a1, a2, a3, a4, a5, a6, a7⟩ := back_at X
    rw [a0, a1, a2, a3, a4, a5, a6, a7]
    unfold covV
    obtain ⟨t1, t2, t3, t4, t5, t6, t7⟩ := within_at X
    generalize (2 : Int) ^ (12 - 4 * d) = P
    rcases (lt7 (by omega) (by omega) : k = 1 ∨ k = 2 ∨ k = 3 ∨ k = 4 ∨ k = 5 ∨ k = 6 ∨ k = 7) with rfl | rfl | rfl | rfl | rfl | rfl | rfl
    · rw [t1, show (2 : Int) ^ (6 - (weightF 1 [1, 1, 1]).toNat) = 32 from by decide]
      rw [show maskI 1 0 = 0 from rfl, show maskI 1 1 = 1 from rfl, show maskI 1 2 = 0 from rfl, show maskI 1 3 = 1 from rfl, show maskI 1 4 = 0 from rfl, show maskI 1 5 = 1 from rfl, show maskI 1 6 = 0 from rfl, show maskI 1 7 = 1 from rfl]
      grind
    · rw [t2, show (2 : Int) ^ (6 - (weightF 2 [1, 1, 1]).toNat) = 32 from by decide]
      rw [show maskI 2 0 = 0 from rfl, show maskI 2 1 = 0 from rfl, show maskI 2 2 = 1 from rfl, show maskI 2 3 = 1 from rfl, show maskI 2 4 = 0 from rfl, show maskI 2 5 = 0 from rfl, show maskI 2 6 = 1 from rfl, show maskI 2 7 = 1 from rfl]
      grind
    · rw [t3, show (2 : Int) ^ (6 - (weightF 3 [1, 1, 1]).toNat) = 16 from by decide]
      rw [show maskI 3 0 = 0 from rfl, show maskI 3 1 = 0 from rfl, show maskI 3 2 = 0 from rfl, show maskI 3 3 = 1 from rfl, show maskI 3 4 = 0 from rfl, show maskI 3 5 = 0 from rfl, show maskI 3 6 = 0 from rfl, show maskI 3 7 = 1 from rfl]
      grind
    · rw [t4, show (2 : Int) ^ (6 - (weightF 4 [1, 1, 1]).toNat) = 32 from by decide]
      rw [show maskI 4 0 = 0 from rfl, show maskI 4 1 = 0 from rfl, show maskI 4 2 = 0 from rfl, show maskI 4 3 = 0 from rfl, show maskI 4 4 = 1 from rfl, show maskI 4 5 = 1 from rfl, show maskI 4 6 = 1 from rfl, show maskI 4 7 = 1 from rfl]
      grind
    · rw [t5, show (2 : Int) ^ (6 - (weightF 5 [1, 1, 1]).toNat) = 16 from by decide]
      rw [show maskI 5 0 = 0 from rfl, show maskI 5 1 = 0 from rfl, show maskI 5 2 = 0 from rfl, show maskI 5 3 = 0 from rfl, show maskI 5 4 = 0 from rfl, show maskI 5 5 = 1 from rfl, show maskI 5 6 = 0 from rfl, show maskI 5 7 = 1 from rfl]
      grind
    · rw [t6, show (2 : Int) ^ (6 - (weightF 6 [1, 1, 1]).toNat) = 16 from by decide]
      rw [show maskI 6 0 = 0 from rfl, show maskI 6 1 = 0 from rfl, show maskI 6 2 = 0 from rfl, show maskI 6 3 = 0 from rfl, show maskI 6 4 = 0 from rfl, show maskI 6 5 = 0 from rfl, show maskI 6 6 = 1 from rfl, show maskI 6 7 = 1 from rfl]
      grind
    · rw [t7, show (2 : Int) ^ (6 - (weightF 7 [1, 1, 1]).toNat) = 8 from by decide]
      rw [show maskI 7 0 = 0 from rfl, show maskI 7 1 = 0 from rfl, show maskI 7 2 = 0 from rfl, show maskI 7 3 = 0 from rfl, show maskI 7 4 = 0 from rfl, show maskI 7 5 = 0 from rfl, show maskI 7 6 = 0 from rfl, show maskI 7 7 = 1 from rfl]
      grind
theorem cov_due (X : Nat → Int) (hX : ∀ k, k < 8 → (X k).natAbs ≤ 2 ^ 34) {d : Nat} (hd : 0 < d) (hd3 : d ≤ 3) : ∀ k, 1 ≤ k → k < 8 → withinF k ((List.range 8).map X) * 2 ^ 18 = covV X d k * (halfF k * 16 ^ d) ∧ (covV X d k).natAbs < 2 ^ 53 := by
  intro k hk hk8
  have hw : (withinF k ((List.range 8).map X)).natAbs ≤ 7 * 2 ^ 34 := by
    have h1 := hX 1 (by decide); have h2 := hX 2 (by decide); have h3 := hX 3 (by decide); have h4 := hX 4 (by decide); have h5 := hX 5 (by decide); have h6 := hX 6 (by decide); have h7 := hX 7 (by decide)
    obtain ⟨t1, t2, t3, t4, t5, t6, t7⟩ := within_at X
    rcases (lt7 (by omega) (by omega) : k = 1 ∨ k = 2 ∨ k = 3 ∨ k = 4 ∨ k = 5 ∨ k = 6 ∨ k = 7) with rfl | rfl | rfl | rfl | rfl | rfl | rfl
    · rw [t1]; clear t1 t2 t3 t4 t5 t6 t7; omega
    · rw [t2]; clear t1 t2 t3 t4 t5 t6 t7; omega
    · rw [t3]; clear t1 t2 t3 t4 t5 t6 t7; omega
    · rw [t4]; clear t1 t2 t3 t4 t5 t6 t7; omega
    · rw [t5]; clear t1 t2 t3 t4 t5 t6 t7; omega
    · rw [t6]; clear t1 t2 t3 t4 t5 t6 t7; omega
    · rw [t7]; clear t1 t2 t3 t4 t5 t6 t7; omega
  unfold covV
  generalize withinF k ((List.range 8).map X) = W at hw
  have hk3 : ∃ n, n ≤ 3 ∧ (weightF k [1, 1, 1]).toNat = n := by
    obtain ⟨v0, v1, v2, v3, v4, v5, v6, v7⟩ := weight_at 1 1 1
    rcases (lt7 (by omega) (by omega) : k = 1 ∨ k = 2 ∨ k = 3 ∨ k = 4 ∨ k = 5 ∨ k = 6 ∨ k = 7) with rfl | rfl | rfl | rfl | rfl | rfl | rfl
    · exact ⟨_, by rw [v1]; decide, rfl⟩
    · exact ⟨_, by rw [v2]; decide, rfl⟩
    · exact ⟨_, by rw [v3]; decide, rfl⟩
    · exact ⟨_, by rw [v4]; decide, rfl⟩
    · exact ⟨_, by rw [v5]; decide, rfl⟩
    · exact ⟨_, by rw [v6]; decide, rfl⟩
    · exact ⟨_, by rw [v7]; decide, rfl⟩
  obtain ⟨n, hn, en⟩ := hk3
  have eh : halfF k = 2 ^ n := by unfold halfF; rw [en]
  rw [eh, en]
  have e : ∀ d, d = 1 ∨ d = 2 ∨ d = 3 → ∀ n, n = 0 ∨ n = 1 ∨ n = 2 ∨ n = 3 → (2 : Int) ^ (6 - n) * 2 ^ (12 - 4 * d) * (2 ^ n * 16 ^ d) = 2 ^ 18 ∧ ((2 : Int) ^ (6 - n) * 2 ^ (12 - 4 * d)).natAbs ≤ 2 ^ 14 := by
    rintro d (rfl | rfl | rfl) n (rfl | rfl | rfl | rfl) <;> decide
  obtain ⟨e1, e2⟩ := e d (by omega) n (by omega)
  refine ⟨?_, ?_⟩
  · rw [Int.mul_assoc, e1]
  · rw [Int.natAbs_mul]
    exact Nat.lt_of_le_of_lt (Nat.mul_le_mul hw e2) (by decide)
theorem sh_ok {w0 w1 w2 : Int} (h0 : 0 ≤ w0 ∧ w0 ≤ 5) (h1 : 0 ≤ w1 ∧ w1 ≤ 5) (h2 : 0 ≤ w2 ∧ w2 ≤ 5) : Sh (shF [w0, w1, w2]) := by
  refine ⟨rfl, ?_, fun x hx => ?_⟩
  · show (16 - (w0 + (w1 + (w2 + 0)))) + (w0 + (w1 + (w2 + 0))) = 16; omega
  · have hx : x ∈ [16 - (w0 + (w1 + (w2 + 0))), w0, w1, w2] := hx
    simp only [List.mem_cons, List.not_mem_nil, or_false] at hx
    rcases hx with rfl | rfl | rfl | rfl <;> omega
end Mine
end

section
open PySem PySem.Spec PySem.Calls PySem.W PyProof.Rows
set_option Elab.async false
namespace Mine
set_option maxRecDepth 100000
local macro_rules | `(tactic| walk_at "up") => `(tactic| repeat (first | exact up_eq | refine (up_ne (by decide)).trans ?_))
section
variable {w : World} {mg mb : Mp} {A : Around} {s s₀ : Shared} {h h₀ : Heap} {Q : Flow → Shared → Prop} {E : Value → Shared → Prop} {L : Addr} {q : Str} {m cm : Mp}
set_option maxHeartbeats 8000000 in
theorem law_all (z : At s₀ h s) (k0 : Kp s₀.heap h₀) (W : Wd (Mine.hd.heap_39 w.params) mg mb h₀) (hA : Rm 2 A) (hu : A.units < cLine) (T : TB h₀ 69) (B : BMo mg h₀) (hnb : NoneBooked h₀) (I : Inn h₀ L (lawOc L) m cm [] h) {l : Addr} {xs : List Int}
    (m1 : m (Str.ofString "script") = some (.ref l)) (hl : LI h₀ l xs) (hlen : xs.length ≤ sizeLine) (hQ : ∀ s' h', At s₀ h' s' → Q (.ret (.bool true)) s') :
    wpAny (model PySem.Challenge.rw_tv0030_01.row.prog w) A (execs (lawBody w.params) (lawEnv w.params L q)) Q E s := by
  have hA1 : Rm 1 A := hA.le (by decide)
  refine law_0 z k0 W hA1 I m1 hl hlen fun s1 h1 b1 m1 Dc is z1 kb I1 fc lc hc10 hup => ?_
  have k0 := k0.trans kb; have W := W.kp kb; have T := kb.tb T; have B := kb.bmo B; have hnb := kb.booked hnb
  clear hup kb
  refine law_1 z1 k0 W hA1 I1 fc lc hc10 fun s2 h2 b2 m2 Dd z2 kb I2 fc fd ld hs => ?_
  have k0 := k0.trans kb; have W := W.kp kb; have T := kb.tb T; have B := kb.bmo B; have hnb := kb.booked hnb
  have lc := kb.li lc
  clear kb
  obtain ⟨d0, d1, d2, d3, d4, d5, d6, y0, y1, y2, y3, y4, y5, y6, ed⟩ := digs_ex (is.getD 8 0)
  rw [ed] at ld
  refine law_2 z2 k0 W hA1 I2 fun s3 h3 Dl yl zl z3 I3 pl hup => ?_
  have hs := Nat.lt_of_lt_of_le hs hup
  clear hup
  have fc : up m2 (Str.ofString "left") (.ref Dl) (Str.ofString "cells") = some (.ref Dc) := (up_ne (by decide)).trans fc
  have fd : up m2 (Str.ofString "left") (.ref Dl) (Str.ofString "digits") = some (.ref Dd) := (up_ne (by decide)).trans fd
  have fl : up m2 (Str.ofString "left") (.ref Dl) (Str.ofString "left") = some (.ref Dl) := up_eq
  generalize up m2 (Str.ofString "left") (.ref Dl) = m3 at I3 fc fd fl
  refine law_3 z3 k0 W I3 pl fl fd ld y0 y1 y2 fun s4 h4 b4 Dr z4 kb k0 I4 lr hup => ?_
  have W := W.kp kb; have T := kb.tb T; have B := kb.bmo B; have hnb := kb.booked hnb; have hs := Nat.lt_of_lt_of_le hs hup
  have lc := kb.li lc; have ld := kb.li ld
  clear hup kb
  refine law_4 z4 k0 I4 fd ld fun s5 h5 b5 Dw z5 kb k0 I5 lw hup => ?_
  have W := W.kp kb; have T := kb.tb T; have B := kb.bmo B; have hnb := kb.booked hnb; have hs := Nat.lt_of_lt_of_le hs hup
  have lc := kb.li lc; have ld := kb.li ld; have lr := kb.li lr
  clear hup kb
  refine law_5 z5 k0 I5 fd ld fun s6 h6 b6 td z6 kb k0 I6 hup => ?_
  have W := W.kp kb; have T := kb.tb T; have B := kb.bmo B; have hnb := kb.booked hnb; have hs := Nat.lt_of_lt_of_le hs hup
  have lc := kb.li lc; have lr := kb.li lr; have lw := kb.li lw
  clear hup kb ld
  refine law_6 z6 k0 I6 fc lc hc10 fun s7 h7 b7 N tN z7 kb k0 hN I7 hup => ?_
  have W := W.kp kb; have T := kb.tb T; have B := kb.bmo B; have hnb := kb.booked hnb; have hs := Nat.lt_of_lt_of_le hs hup
  have lc := kb.li lc; have lr := kb.li lr; have lw := kb.li lw
  clear hup kb
  have hrts := rts_ok d0 y0 d1 y1 d2 y2
  rw [Bool.and_eq_true] at hrts
  obtain ⟨hr12, hrn⟩ := hrts
  have hrn := of_decide_eq_true hrn
  have hr12 : ∀ r ∈ rtsF d0 d1 d2, r < 12 := fun r hr => of_decide_eq_true (List.all_eq_true.mp hr12 r hr)
  have hrl : (rtsF d0 d1 d2).length = 3 := rfl
  obtain ⟨r0, r1, r2, er⟩ : ∃ r0 r1 r2, rtsF d0 d1 d2 = [r0, r1, r2] := ⟨_, _, _, rfl⟩
  rw [er] at lr hr12 hrn hrl
  have hne : r0 ≠ r1 ∧ r0 ≠ r2 ∧ r1 ≠ r2 := by
    simp only [List.nodup_cons, List.mem_cons, List.not_mem_nil, or_false, not_or] at hrn
    exact ⟨hrn.1.1, hrn.1.2, hrn.2.1⟩
  obtain ⟨Ms, hM, hMb⟩ := modes N r0 r1 r2 hne.1 hne.2.1 hne.2.2
  refine law_7 z7 k0 W hA1 I7 (by walk_at "up") (by walk_at "up") lr hrl hr12 fun s8 h8 b8 tK z8 kb k0 I8 hup => ?_
  have W := W.kp kb; have T := kb.tb T; have B := kb.bmo B; have hnb := kb.booked hnb; have hs := Nat.lt_of_lt_of_le hs hup
  have lc := kb.li lc; have lr := kb.li lr; have lw := kb.li lw
  clear hup kb
  refine law_8 z8 k0 W hA I8 (by walk_at "up") (by walk_at "up") lr hrl hr12 Ms hM fun s9 h9 b9 Do z9 kb k0 I9 lo hup => ?_
  have W := W.kp kb; have T := kb.tb T; have B := kb.bmo B; have hnb := kb.booked hnb; have hs := Nat.lt_of_lt_of_le hs hup
  have lc := kb.li lc; have lr := kb.li lr; have lw := kb.li lw
  clear hup kb
  have hrow8 : ((List.range 8).map fun a => rowF (Ms a)).length = 8 := by rw [List.length_map, List.length_range]
  refine law_9 z9 k0 W hA1 I9 (by walk_at "up") lo hrow8 (fun r hr => by obtain ⟨a, _, rfl⟩ := List.mem_map.mp hr; exact row_len _) (by walk_at "up") lr hrl hr12 fun s10 h10 b10 Ds z10 kb k0 I10 ls hup => ?_
  have W := W.kp kb; have T := kb.tb T; have B := kb.bmo B; have hnb := kb.booked hnb; have hs := Nat.lt_of_lt_of_le hs hup
  have lc := kb.li lc; have lw := kb.li lw; have lo := kb.ls lo
  clear hup kb lr
  have hrk : ∀ k, k < 3 → [r0, r1, r2].getD k 0 < 12 := fun k hk => by
    rcases (by omega : k = 0 ∨ k = 1 ∨ k = 2) with rfl | rfl | rfl
    · exact hr12 r0 (by simp)
    · exact hr12 r1 (by simp)
    · exact hr12 r2 (by simp)
  have hsum := shown_sum hrk hMb
  have hnd := rows_nodup hsum
  have els : ((List.range 8).map fun a => rowF (Ms a)).map (sumShown [r0, r1, r2]) = (List.range 8).map Int.ofNat := by
    rw [List.map_map]
    exact List.map_congr_left fun a ha => hsum a (List.mem_range.mp ha)
  rw [els] at ls
  generalize ((List.range 8).map fun a => rowF (Ms a)) = rows at lo hrow8 hnd
  refine law_10 z10 W hA1 hu I10 (by walk_at "up") ls fun s11 h11 z11 I11 hup => ?_
  have hs := Nat.lt_of_lt_of_le hs hup
  clear hup
  refine law_11 z11 k0 hA1 I11 fc lc hc10 fun s12 h12 b12 Df z12 kb k0 I12 lf hup => ?_
  have W := W.kp kb; have T := kb.tb T; have B := kb.bmo B; have hnb := kb.booked hnb; have hs := Nat.lt_of_lt_of_le hs hup
  have lw := kb.li lw; have lo := kb.ls lo; have ls := kb.li ls
  clear hup kb lc
  have hf8 : ((is.take 8).map restF).length = 8 := by rw [List.length_map, List.length_take]; omega
  have hfb : ∀ x ∈ (is.take 8).map restF, x.natAbs ≤ 2 ^ 19 := fun x hx => by
    obtain ⟨y, _, rfl⟩ := List.mem_map.mp hx
    have := restF_bd y
    omega
  generalize (is.take 8).map restF = f at lf hf8 hfb
  have b3 : (0 : Int) ≤ (d3 : Int) ∧ (d3 : Int) ≤ 5 := ⟨by omega, by omega⟩
  have b4 : (0 : Int) ≤ (d4 : Int) ∧ (d4 : Int) ≤ 5 := ⟨by omega, by omega⟩
  have b5 : (0 : Int) ≤ (d5 : Int) ∧ (d5 : Int) ≤ 5 := ⟨by omega, by omega⟩
  have hS := sh_ok b3 b4 b5
  have hwb := weight_bd b3 b4 b5
  obtain ⟨d, ed6, hd0, hd3⟩ : ∃ d : Nat, (d6 : Int) + 1 = (d : Int) ∧ 0 < d ∧ d ≤ 3 := ⟨d6 + 1, by omega, by omega, by omega⟩
  rw [ed6] at I12
  have hXb := shr_bd hfb b3 b4 b5 hd3
  have hwe := worth_eq f hf8 d3 d4 d5 hd0 hd3
  have hwbd := worth_bd f d3 d4 d5 hS hfb hd0 hd3
  refine law_12 z12 k0 W hA hs I12 (by walk_at "up") lf hf8 (by walk_at "up") lw rfl (by walk_at "up") hS hfb hd0 hd3 fun s13 h13 b13 Do2 z13 kb k0 I13 lv hup => ?_
  have W := W.kp kb; have T := kb.tb T; have B := kb.bmo B; have hnb := kb.booked hnb; have hs := Nat.lt_of_lt_of_le hs hup
  have lw := kb.li lw; have lo := kb.ls lo; have ls := kb.li ls; have lf := kb.li lf
  clear hup kb
  rw [hwe] at lv hwbd
  refine law_13 z13 k0 W hA1 I13 (by walk_at "up") lf hf8 fun s14 h14 b14 Dh z14 kb k0 I14 lh hup => ?_
  have W := W.kp kb; have T := kb.tb T; have B := kb.bmo B; have hnb := kb.booked hnb; have hs := Nat.lt_of_lt_of_le hs hup
  have lw := kb.li lw; have lo := kb.ls lo; have ls := kb.li ls; have lv := kb.lp lv
  clear hup kb lf
  refine law_14 z14 k0 W hA1 I14 (by walk_at "up") lh (by walk_at "up") lw rfl (by walk_at "up") hd3 (fun a _ => high_bd hfb a) (fun a ha => (hwb a ha).1) fun s15 h15 b15 Dk z15 kb k0 I15 lk hup => ?_
  have W := W.kp kb; have T := kb.tb T; have B := kb.bmo B; have hnb := kb.booked hnb; have hs := Nat.lt_of_lt_of_le hs hup
  have lo := kb.ls lo; have ls := kb.li ls; have lv := kb.lp lv; have lh := kb.li lh
  clear hup kb lw
  have hh0 : ((List.range 8).map (highF f)).getD 0 0 * 16 ^ d = shrF f [(d3 : Int), (d4 : Int), (d5 : Int)] d 0 := by
    show highF f 0 * 16 ^ d = highF f 0 * (16 - 2 * weightF 0 [(d3 : Int), (d4 : Int), (d5 : Int)]) ^ d
    rw [(weight_at (d3 : Int) d4 d5).1]
    rfl
  generalize shrF f [(d3 : Int), (d4 : Int), (d5 : Int)] d = X at lk hXb lv hwbd hh0
  have hdue : ∀ a, a < 8 → (dueF X d a).natAbs ≤ 2 ^ 41 := fun a ha => hwbd _ (List.mem_map.mpr ⟨a, List.mem_range.mpr ha, rfl⟩)
  refine law_15 z15 k0 W hA1 hs I15 (by walk_at "up") lk (by walk_at "up") hd0 hd3 (fun a ha => Nat.lt_of_le_of_lt (hdue a ha) (by decide)) fun s16 h16 b16 De z16 kb k0 I16 le hup => ?_
  have W := W.kp kb; have T := kb.tb T; have B := kb.bmo B; have hnb := kb.booked hnb; have hs := Nat.lt_of_lt_of_le hs hup
  have lo := kb.ls lo; have ls := kb.li ls; have lv := kb.lp lv; have lh := kb.li lh; have lk := kb.li lk
  clear hup kb
  have hc8 : ((List.range 8).map (dueF X d)).length = 8 := by rw [List.length_map, List.length_range]
  refine law_16 z16 k0 W hA1 I16 (by walk_at "up") lo hrow8 (by walk_at "up") ls (by walk_at "up") lv.lf hc8 hnd fun s17 h17 b17 Di js z17 kb k0 I17 hp tl hup => ?_
  have W := W.kp kb; have T := kb.tb T; have B := kb.bmo B; have hnb := kb.booked hnb; have hs := Nat.lt_of_lt_of_le hs hup
  have lv := kb.lp lv; have lh := kb.li lh; have lk := kb.li lk; have le := kb.lp le
  clear hup kb lo ls
  have hj8 : js.length = 8 := by rw [hp.length_eq, List.length_range]
  refine law_17 z17 k0 hA1 I17 (by walk_at "up") tl hj8 fun s18 h18 b18 Dn z18 kb k0 I18 lcn hup => ?_
  have W := W.kp kb; have T := kb.tb T; have B := kb.bmo B; have hnb := kb.booked hnb; have hs := Nat.lt_of_lt_of_le hs hup
  have lv := kb.lp lv; have lh := kb.li lh; have lk := kb.li lk; have le := kb.lp le; have tl := kb.tl tl
  clear hup kb
  have ejs : (js.map fun i => ((List.range 8).map (dueF X d)).getD i 0) = js.map (dueF X d) := List.map_congr_left fun i hi => by
    have hi8 := List.mem_range.mp (hp.mem_iff.mp hi)
    rw [List.getD_eq_getElem?_getD, List.getElem?_map, List.getElem?_range hi8]
    rfl
  have hb41 : ∀ c ∈ js.map (dueF X d), c.natAbs ≤ 2 ^ 41 := fun c hc => by
    obtain ⟨i, hi, rfl⟩ := List.mem_map.mp hc
    exact hdue i (List.mem_range.mp (hp.mem_iff.mp hi))
  refine law_18 z18 k0 W hA hs T B I18 (by walk_at "up") tl hj8 (by walk_at "up") lcn (by rw [ejs]; exact hb41) (yb := 7 * X 0 * 2 ^ (15 - 4 * d)) (by rw [ejs]; exact due_sum hp X d) (covV X d) (by rw [ejs]; exact cov_sum hp X hd0 hd3) fun s19 h19 b19 Dt z19 kb k0 I19 lt hup => ?_
  have W := W.kp kb; have hnb := kb.booked hnb; have hs := Nat.lt_of_lt_of_le hs hup
  have lv := kb.lp lv; have lh := kb.li lh; have lk := kb.li lk; have le := kb.lp le
  clear hup kb
  refine law_19 z19 W hA1 hu I19 (by walk_at "up") lv.lf hc8 up_eq lt.lf (by rw [List.length_map, List.length_range]) fun s20 h20 z20 I20 hup => ?_
  have hs := Nat.lt_of_lt_of_le hs hup
  clear hup
  refine law_20 z20 k0 W hA1 I20 fun s21 h21 b21 Dv z21 kb k0 I21 lvv hup => ?_
  have W := W.kp kb; have hnb := kb.booked hnb; have hs := Nat.lt_of_lt_of_le hs hup
  have lv := kb.lp lv; have lh := kb.li lh; have lk := kb.li lk; have le := kb.lp le; have lt := kb.lp lt
  clear hup kb
  refine law_21 z21 W hA hu hs hnb I21 (by walk_at "up") lv (by walk_at "up") le (by walk_at "up") lt (by walk_at "up") lvv (by walk_at "up") lk (by rw [List.length_map, List.length_range]) (by walk_at "up") hd0 hd3 (cov_due X hXb hd0 hd3) fun s22 h22 z22 I22 hup => ?_
  refine law_22 z22 W hA1 I22 (by walk_at "up") lv.lf hc8 (fun c hc => by obtain ⟨a, ha, rfl⟩ := List.mem_map.mp hc; exact hdue a (List.mem_range.mp ha)) (by walk_at "up") lh (by rw [List.length_map, List.length_range])
    (c := 7 * X 0 * 2 ^ (15 - 4 * d)) (due_sum (.refl _) X d) ?_ ?_ hQ
  · rw [← hh0]
    have e : (2 : Int) ^ 18 = 16 ^ d * 2 ^ (15 - 4 * d) * 8 := by
      rcases (by omega : d = 1 ∨ d = 2 ∨ d = 3) with rfl | rfl | rfl <;> decide
    rw [e]
    generalize ((List.range 8).map (highF f)).getD 0 0 = g
    generalize (2 : Int) ^ (15 - 4 * d) = P
    generalize (16 : Int) ^ d = R
    grind
  · have h1 := hXb 0 (by decide)
    rw [Int.natAbs_mul, Int.natAbs_mul]
    have h2 : ((2 : Int) ^ (15 - 4 * d)).natAbs ≤ 2 ^ 11 := by
      rcases (by omega : d = 1 ∨ d = 2 ∨ d = 3) with rfl | rfl | rfl <;> decide
    exact Nat.lt_of_le_of_lt (Nat.mul_le_mul (Nat.mul_le_mul (Nat.le_refl _) h1) h2) (by decide)
end
end Mine
end

section
open PySem PySem.Spec PySem.Calls PySem.W PyProof.Rows
set_option Elab.async false
namespace Mine
set_option maxRecDepth 100000
def notT (o : Obj) : Bool := match o with | ⟨.none, _, .fields _, _⟩ => false | _ => true
theorem lookup_mem' {α : Type} {a : Addr} {o : α} : ∀ {l : List (Addr × α)}, l.lookup a = some o → (a, o) ∈ l
  | [], h => by cases h
  | (b, x) :: r, h => by
    rw [List.lookup_cons] at h
    cases hb : a == b with
    | true =>
      rw [hb] at h
      have e1 : x = o := by injection h
      have e2 : a = b := by simpa using hb
      subst e1; subst e2
      exact .head _
    | false => rw [hb] at h; exact .tail _ (lookup_mem' h)
theorem K_nt (p : Params) : ∀ a o, (Mine.hd.heap_39 p).lookup a = some o → ¬ isT o := by
  have hall : (Mine.hd.heap_39 p).all (fun q => notT q.2) = true := by rfl
  rintro a o h ⟨ps, rfl⟩
  have := List.all_eq_true.mp hall _ (lookup_mem' h)
  cases this
theorem ns_none_of {K : Frag} {h : Heap} {a : Addr} {mc : Str → Option Value} {n : Str} (X : K.In h) (G : h.Ns a mc) (e : nsIn K a n = some none) : mc n = none := by
  obtain ⟨o, es, ep, ho, hd, _, hf⟩ := G
  unfold nsIn at e
  split at e
  · rename_i c d es' n' sl q
    have h2 := X _ _ q
    rw [ho] at h2
    cases h2
    cases hd
    split at e
    · cases e
    · rename_i he
      rw [← hf]
      unfold nsFind findBy
      rw [← Array.find?_toList, he]
      rfl
  · cases e
theorem booked_of {p : Params} {h : Heap} (X : (Mine.hd.heap_39 p).In h) (x : h.NoLimit) : NoneBooked h := by
  obtain ⟨mc, a, _⟩ := x
  exact ⟨mc, a, ns_none_of X a (by rfl)⟩
theorem oldK_of {h h' : Heap} (k : Kp h h') (T : TB h 69) : OldK h h' := by
  obtain ⟨ps0, ⟨o, vs, _, _, _, _, _, _, _, e1, e2, e3, e4, _⟩, _, _⟩ := T
  refine ⟨fun b ob e => ?_, fun b ob e => k.live e⟩
  rcases k b ob e with e5 | ⟨ps, more, rfl, e5⟩
  · exact .inl e5
  · have hb := more.2.2
    subst hb
    exact .inr (.inl ⟨⟨69, o, vs, e1, e2, e3, e4⟩, rfl, ps, more.1, rfl, e5⟩)
theorem K70 (p : Params) : ∃ oc od osl fd, (Mine.hd.heap_39 p).lookup 70 = some ⟨oc, od, .func fd, osl⟩ ∧ fd.code = .ref 69 := ⟨_, _, _, _, rfl, rfl⟩
theorem K69 (p : Params) : ∃ o vs, (Mine.hd.heap_39 p).lookup 69 = some o ∧ o.data = .fields vs ∧ vs[11]? = some (.ref 65) := ⟨_, _, rfl, rfl, rfl⟩
theorem tb_of {loose : List Str} {mean : ExcName → Option Value} {mg mb : Str → Option Value} {h : Heap} (p : Params) (X : (Mine.hd.heap_39 p).In h) (T : Top Mine.hd.view_39 loose mean mg mb h) : TB h 69 := by
  obtain ⟨d, hd, hn⟩ : ∃ d ∈ recsOf Mine.hd.view_39, d.name = Str.ofString "covariance" := by
    have h1 : ((recsOf Mine.hd.view_39).any fun d => d.name == Str.ofString "covariance") = true := by decide +kernel
    obtain ⟨d, h2, h3⟩ := List.any_eq_true.mp h1
    exact ⟨d, h2, eq_of_beq h3⟩
  obtain ⟨a, o, fd, c, P, e1, e2, e3, e4, hc, ht⟩ := T.tab d hd
  have e5 : mg (Str.ofString "covariance") = some (.ref 70) := mg_of X T.g (by rfl)
  rw [hn, e5] at e1
  cases e1
  obtain ⟨oc, od, osl, fd', k1, k2⟩ := K70 p
  have e6 := X _ _ k1
  rw [e2] at e6
  cases e6
  cases e3
  rw [k2] at e4
  cases e4
  have hcd := CodeHd.of hc ht
  obtain ⟨o', vs', k3, k4, k5⟩ := K69 p
  have e7 := X _ _ k3
  have hP : P = 65 := by
    obtain ⟨o2, vs2, _, _, _, _, _, _, _, f1, f2, f3, f4, _⟩ := hcd
    rw [e7] at f1
    cases f1
    rw [k4] at f3
    cases f3
    rw [k5] at f4
    cases f4
    rfl
  subst hP
  obtain ⟨_, _, _, _, _, _, _, _, _, _, _, _, _, _, _, _, _, _, _, ok, _⟩ := hc
  exact ⟨#[], hcd, ht.2, ok⟩
theorem ints_li {h : Heap} {l : Addr} {vs : List Value} {xs : List Int} (pl : h.PlainList l vs.toArray) (hi : IntsAre vs xs) : LI h l xs := by
  refine ⟨vs.toArray, pl, ?_⟩
  show Paired _ xs vs.toArray.toList
  rw [List.toList_toArray]
  clear pl
  induction hi with
  | nil => exact .nil
  | cons a t _ ih => exact .cons ⟨t, rfl⟩ ih
set_option maxHeartbeats 8000000 in
theorem entry {w : World} {s₁ : Shared} {mg mb : Str → Option Value} {loose : List Str} {mean : ExcName → Option Value} (X : (Mine.hd.heap_39 w.params).In s₁.heap) (T : Top Mine.hd.view_39 loose mean mg mb s₁.heap) (hg : s₁.gens = #[]) {l : Addr} {vs : List Value} {xs : List Int}
    (hl : s₁.heap.IsList l vs.toArray) (hw : Well w.params s₁.heap (.ref l) (ofPy (.list (xs.map PyData.int)))) (hi : IntsAre vs xs) (hlen : ¬ (63 : Int) < (xs.length : Int)) {P : Value → Shared → Prop} {E : Value → Shared → Prop}
    (hP : ∀ s', OldK s₁.heap s'.heap → s'.os = s₁.os → AllBare s'.gens → P (.bool true) s') : wpAny (model PySem.Challenge.rw_tv0030_01.row.prog w) callerA (call (.ref 165) [.ref l]) P E s₁ := by
  have W : Wd (Mine.hd.heap_39 w.params) mg mb s₁.heap := ⟨X, K_nt _, T.g, T.b, T.nolimit, T.builtins⟩
  have pl : s₁.heap.PlainList l vs.toArray := by
    have ew : ofPy (.list (xs.map PyData.int)) = .list (ofPys (xs.map PyData.int)) := by simp [ofPy]
    rw [ew] at hw
    cases hw with
    | list e _ =>
      obtain ⟨o, ho, _, n, hd⟩ := hl
      rw [e] at ho
      cases ho
      injection hd with h1 h2
      rw [← h1]
      exact ⟨_, e⟩
  have hli := ints_li pl hi
  have TBh := tb_of w.params X T
  have hnb := booked_of X T.nolimit
  refine call_def (f := 165) [(Str.ofString "script", .ref l)] W (by rfl) (by decide) (by rfl) (BindsTo.of_eq rfl) (by rfl) (by rfl) (by decide) (fun L s₂ q m cm hm hcm I g hup => ?_)
  have z : At s₁ s₂.heap s₂ := ⟨g, rfl⟩
  show wpAny _ _ (execs (lawBody w.params) (lawEnv w.params L q)) _ _ s₂
  refine law_all z (.refl _) W ⟨rfl, by show callerA.depth + 1 + 2 < recursionLimit; decide⟩ (by show callerA.units + 3 < cLine; decide) TBh T.bmain hnb I (hm _ _ (.head _) rfl) hli (Nat.le_trans (show xs.length ≤ 63 by omega) (by decide)) fun s' h' z' => ?_
  exact hP s' (oldK_of z'.gr.kp TBh) z'.gr.sm.os (z'.gr.sm.2 (AllBare.of_eq hg))
end Mine
end

section
open PySem PySem.W PyProof.Rows
set_option Elab.async false
namespace Mine
theorem post_ok (d : WData) : PySem.Challenge.rw_tv0030_01.row.claim.post [d] (.bool true) [d] = true := by
  show (WShape.has [] (WData.bool true) WShape.bool && WTm.holds [] (.eq .res (.lit (.bool true))) ⟨[d], some (.bool true), [d], []⟩) = true
  rw [holdsW_of_value (X := true) (w_eq_bool (k := true) (l := true) (w_res rfl) w_lit)]
  simp [WShape.has, WShape.arms]
end Mine
set_option maxRecDepth 100000 in
set_option maxHeartbeats 8000000 in
theorem Mine.fin : PySem.Challenge.rw_tv0030_01.Holds := Mine.hd (by
  k_fill
  intro w s₀ s₁ mg mb G Y fa o pm cd doc dV kV ho hd hcd hD hmg hg args vals as hpre hlay hrd hwl hlo
  have KX := km_in_of Y
  refine Ground.open G ?_
  intro T B D TE TW
  clear B D TE TW G Y
  have h165 : mg (PySem.Str.ofString "law") = some (.ref 165) := mg_of KX T.g (by rfl)
  have hfa : fa = 165 := by
    have h2 := hmg.symm.trans h165
    injection h2 with h2
    injection h2
  clear ho hd hcd hD hmg h165
  subst hfa
  wrow_args hpre hlay hrd hwl hlo
  rename_i xs hsh hlay0 hLay hrA hl2 a1 a2 l vs a3 hIs ra w1 r0 hInts hR hc1 hc2
  exact Mine.entry KX T hg hIs w1 hInts hc1 fun s' h1 h2 h3 => ⟨.inl ⟨.bool true, .bool true, [], rfl, fun cls => rfl, .bool true, Mine.post_ok _, fun _ => ⟨.nil, fun _ h => nomatch h⟩⟩, h1, h2, h3⟩)
end
theorem PySem.Challenge.cw_tv0030_01_holds : PySem.Challenge.rw_tv0030_01.Holds := by
  exact Mine.fin
