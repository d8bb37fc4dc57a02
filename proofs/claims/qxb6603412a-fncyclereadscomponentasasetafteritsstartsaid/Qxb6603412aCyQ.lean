/-
  PLAIN: the search finds a cycle of least length.
-/
import Derived.Test.Qxb6603412aCyP
namespace Go.Proofs.Qxb6603412a
set_option linter.unusedVariables false

section
variable {g : List (List Ed)} {comp : List Int} {start : Int} {R : List (Int × Ed)} {Q : List Int} {P : Int → Prop} {v : Int} {D : Int → Nat}

/-- Between two nodes. -/
structure OI (g : List (List Ed)) (comp : List Int) (start : Int) (R : List (Int × Ed)) (Q : List Int) (P : Int → Prop) (D : Int → Nat) : Prop where
  s0 : (lookE R start).isSome = true
  d0 : D start = 0
  ent : ∀ x e, lookE R x = some e → x ≠ start → e.2.1 = x ∧ x ∈ comp ∧ e ∈ gout g e.1 ∧ (lookE R e.1).isSome = true ∧ D x = D e.1 + 1
  all : ∀ x, (lookE R x).isSome = true → P x ∨ x ∈ Q
  rq : ∀ x ∈ Q, (lookE R x).isSome = true
  rp : ∀ x, P x → (lookE R x).isSome = true
  srt : Q.Pairwise (fun a b => D a ≤ D b)
  near : ∀ a ∈ Q, ∀ b ∈ Q, D b ≤ D a + 1
  pq : ∀ u, P u → ∀ a ∈ Q, D u ≤ D a
  cls : ∀ u, P u → ∀ e ∈ gout g u, e.2.1 ≠ start ∧ (e.2.1 ∈ comp → (lookE R e.2.1).isSome = true ∧ D e.2.1 ≤ D u + 1)
  sml : ∀ x, (lookE R x).isSome = true → D x < R.length

theorem OI.begin (g : List (List Ed)) (comp : List Int) (start : Int) : OI g comp start [(start, (0, 0, 0))] [start] (fun _ => False) (fun _ => 0) := by
  have hs : ∀ x, (lookE [(start, ((0 : Int), (0 : Int), (0 : Int)))] x).isSome = true → x = start := fun x hx => by
    simp only [lookE] at hx
    split at hx
    · rename_i h; exact h.symm
    · simp at hx
  refine ⟨by simp [lookE], rfl, ?_, ?_, ?_, (fun x h => h.elim), by simp, (fun _ _ _ _ => Nat.zero_le _), (fun _ h => h.elim), (fun _ h => h.elim), (fun _ _ => by simp)⟩
  · intro x e hx hne
    exact absurd (hs x (by rw [hx]; rfl)) hne
  · intro x hx
    exact .inr (by simp [hs x hx])
  · intro x hx
    obtain rfl : x = start := by simpa using hx
    simp [lookE]

theorem OI.pop (h : OI g comp start R (v :: Q) P D) : SI g comp start R Q P v [] D := by
  refine ⟨h.s0, h.d0, h.ent, ?_, h.rq v (by simp), (fun x hx => h.rq x (by simp [hx])), h.rp, (List.pairwise_cons.1 h.srt).2, (fun a ha => (List.pairwise_cons.1 h.srt).1 a ha), (fun a ha => h.near v (by simp) a (by simp [ha])), (fun u hu => h.pq u hu v (by simp)), h.cls, (fun e he => by simp at he), h.sml⟩
  intro x hx
  rcases h.all x hx with hp | hp
  · exact .inl hp
  · rcases List.mem_cons.1 hp with e | hp
    · exact .inr (.inl e)
    · exact .inr (.inr hp)

theorem SI.done (h : SI g comp start R Q P v (gout g v) D) : OI g comp start R Q (fun x => P x ∨ x = v) D := by
  refine ⟨h.s0, h.d0, h.ent, ?_, h.rq, ?_, h.srt, ?_, ?_, ?_, h.sml⟩
  · intro x hx
    rcases h.all x hx with hp | hp | hp
    · exact .inl (.inl hp)
    · exact .inl (.inr hp)
    · exact .inr hp
  · intro x hx
    rcases hx with hx | rfl
    · exact h.rp x hx
    · exact h.rv
  · intro a ha b hb
    have h1 := h.lo a ha
    have h2 := h.hi b hb
    omega
  · intro u hu a ha
    rcases hu with hu | rfl
    · have h1 := h.pv u hu
      have h2 := h.lo a ha
      omega
    · exact h.lo a ha
  · intro u hu e he
    rcases hu with hu | rfl
    · exact h.cls u hu e he
    · exact h.cur e he

theorem SI.inComp (hd : Dom g comp start) {es : List Ed} (h : SI g comp start R Q P v es D) {x : Int} (hx : (lookE R x).isSome = true) : x ∈ comp := by
  by_cases e : x = start
  · rw [e]; exact hd.mem
  · obtain ⟨y, hy⟩ := Option.isSome_iff_exists.1 hx
    exact (h.ent x y hy e).2.1

theorem OI.inComp (hd : Dom g comp start) (h : OI g comp start R Q P D) {x : Int} (hx : (lookE R x).isSome = true) : x ∈ comp := by
  by_cases e : x = start
  · rw [e]; exact hd.mem
  · obtain ⟨y, hy⟩ := Option.isSome_iff_exists.1 hx
    exact (h.ent x y hy e).2.1

theorem Dom.from_eq (hd : Dom g comp start) {v : Int} (hv : v ∈ comp) {e : Ed} (he : e ∈ gout g v) : e.1 = v := by
  obtain ⟨h0, h1⟩ := hd.rng v hv
  have := hd.frm v.toNat (by omega) e he
  rw [this]; omega

theorem scan_ok (hd : Dom g comp start) (inC : Int → Bool) (hC : ∀ x, inC x = decide (x ∈ comp)) : ∀ (es2 es1 : List Ed) (R : List (Int × Ed)) (Q : List Int) (D : Int → Nat), gout g v = es1 ++ es2 → SI g comp start R Q P v es1 D →
    ∀ o R' Q', scanE start inC es2 R Q = (o, R', Q') →
      (o = none → ∃ D', SI g comp start R' Q' P v (gout g v) D' ∧ Q'.length + unr g.length R' ≤ Q.length + unr g.length R) ∧
      (∀ e, o = some e → e ∈ gout g v ∧ e.2.1 = start ∧ ∃ es D' Q'', SI g comp start R' Q'' P v es D')
  | [], es1, R, Q, D, hg, h, o, R', Q', hs => by
    simp only [scanE, Prod.mk.injEq] at hs
    obtain ⟨rfl, rfl, rfl⟩ := hs
    refine ⟨fun _ => ⟨D, ?_, Nat.le_refl _⟩, fun e he => by cases he⟩
    rw [hg, List.append_nil]; exact h
  | e :: es2, es1, R, Q, D, hg, h, o, R', Q', hs => by
    have hmem : e ∈ gout g v := by rw [hg]; simp
    have hg2 : gout g v = (es1 ++ [e]) ++ es2 := by rw [hg]; simp
    unfold scanE at hs
    by_cases h1 : e.2.1 = start
    · rw [if_pos h1] at hs
      simp only [Prod.mk.injEq] at hs
      obtain ⟨rfl, rfl, rfl⟩ := hs
      refine ⟨fun he => (by cases he), fun e' he' => ?_⟩
      obtain rfl : e = e' := by simpa using he'
      exact ⟨hmem, h1, _, _, _, h⟩
    · rw [if_neg h1] at hs
      by_cases h2 : ((lookE R e.2.1).isNone && inC e.2.1) = true
      · rw [if_pos h2] at hs
        rw [Bool.and_eq_true, hC, decide_eq_true_eq] at h2
        have hn := h.new h1 h2.1 h2.2 (hd.from_eq (h.inComp hd h.rv) hmem) hmem
        obtain ⟨r1, r2⟩ := scan_ok hd inC hC es2 (es1 ++ [e]) _ _ _ hg2 hn o R' Q' hs
        refine ⟨fun ho => ?_, r2⟩
        obtain ⟨D', a1, a2⟩ := r1 ho
        refine ⟨D', a1, ?_⟩
        have hr := hd.rng _ h2.2
        have hu := unr_new g.length R e.2.1 e hr.1 hr.2 h2.1
        simp only [List.length_append, List.length_singleton] at a2
        omega
      · rw [if_neg h2] at hs
        have hsk := h.skip (e := e) h1 (fun hc => by
          cases hl : lookE R e.2.1 with
          | none => exact absurd (by rw [hl, hC]; simp [hc]) h2
          | some y => rfl)
        exact scan_ok hd inC hC es2 (es1 ++ [e]) R Q D hg2 hsk o R' Q' hs

theorem OI.no_end (hd : Dom g comp start) (h : OI g comp start R [] P D) (d : Nat) (hc : CycLen g comp start d) : False := by
  have key : ∀ d u, Reach g comp start d u → P u := by
    intro d
    induction d with
    | zero =>
      intro u hu
      have hu' : u = start := hu
      rcases h.all u (by rw [hu']; exact h.s0) with hp | hp
      · exact hp
      · simp at hp
    | succ d ih =>
      intro u hu
      obtain ⟨h1, u', h2, e, h3, h4⟩ := hu
      have hp := ih u' h2
      have := (h.cls u' hp e h3).2 (by rw [h4]; exact h1)
      rw [h4] at this
      rcases h.all u this.1 with hp | hp
      · exact hp
      · simp at hp
  obtain ⟨u, hu, e, he, hs⟩ := hc
  exact (h.cls u (key d u hu) e he).1 hs

theorem SI.least {es : List Ed} (h : SI g comp start R Q P v es D) (d : Nat) (hc : CycLen g comp start d) : D v ≤ d := by
  rcases Nat.lt_or_ge d (D v) with hlt | hge
  · exfalso
    have key : ∀ d u, d < D v → Reach g comp start d u → P u ∧ D u ≤ d := by
      intro d
      induction d with
      | zero =>
        intro u hd hu
        have hu' : u = start := hu
        subst hu'
        rcases h.all u h.s0 with hp | hp | hp
        · exact ⟨hp, by rw [h.d0]; exact Nat.le_refl _⟩
        · rw [← hp, h.d0] at hd; omega
        · have := h.lo u hp; rw [h.d0] at this; omega
      | succ d ih =>
        intro u hd hu
        obtain ⟨h1, u', h2, e, h3, h4⟩ := hu
        obtain ⟨hp, hD⟩ := ih u' (by omega) h2
        have := (h.cls u' hp e h3).2 (by rw [h4]; exact h1)
        rw [h4] at this
        rcases h.all u this.1 with hq | hq | hq
        · exact ⟨hq, by omega⟩
        · have h5 := this.2; rw [hq] at h5; omega
        · have := h.lo u hq; omega
    obtain ⟨u, hu, e, he, hs⟩ := hc
    exact (h.cls u (key d u hlt hu).1 e he).1 hs
  · exact hge

theorem bfs_ok (hd : Dom g comp start) (inC : Int → Bool) (hC : ∀ x, inC x = decide (x ∈ comp)) (d : Nat) (hc : CycLen g comp start d) : ∀ (f : Nat) (R : List (Int × Ed)) (Q : List Int) (P : Int → Prop) (D : Int → Nat), OI g comp start R Q P D → Q.length + unr g.length R ≤ f →
    ∃ e v R' Q' P' es D', bfsE g start inC f R Q = some (e, v, R') ∧ SI g comp start R' Q' P' v es D' ∧ e ∈ gout g v ∧ e.2.1 = start
  | f, R, [], P, D, h, hf => (h.no_end hd d hc).elim
  | 0, R, v :: Q, P, D, h, hf => by simp at hf
  | f + 1, R, v :: Q, P, D, h, hf => by
    have hp := h.pop
    match hs : scanE start inC (gout g v) R Q with
    | (o, R', Q') =>
      obtain ⟨r1, r2⟩ := scan_ok hd inC hC (gout g v) [] R Q D rfl hp o R' Q' hs
      cases o with
      | some e =>
        obtain ⟨a1, a2, es, D', Q'', a3⟩ := r2 e rfl
        exact ⟨e, v, R', Q'', P, es, D', by simp [bfsE, hs], a3, a1, a2⟩
      | none =>
        obtain ⟨D', a1, a2⟩ := r1 rfl
        obtain ⟨e, v', R'', Q'', P'', es, D'', b1, b2⟩ := bfs_ok hd inC hC d hc f R' Q' _ D' a1.done (by simp only [List.length_cons] at hf; omega)
        exact ⟨e, v', R'', Q'', P'', es, D'', by simp only [bfsE, hs]; exact b1, b2⟩

theorem back_ok {es : List Ed} (h : SI g comp start R Q P v es D) : ∀ (k : Nat) (x : Int), (lookE R x).isSome = true → D x ≤ k → ∃ l, backE start (k + 1) x R = some l ∧ BackOk g comp start x l ∧ l.length = D x
  | k, x, hx, hk => by
    by_cases hxs : x = start
    · exact ⟨[], by simp [backE, hxs], hxs, by rw [hxs, h.d0]; rfl⟩
    · obtain ⟨e, he⟩ := Option.isSome_iff_exists.1 hx
      obtain ⟨a1, a2, a3, a4, a5⟩ := h.ent x e he hxs
      match k, hk with
      | 0, hk => omega
      | k + 1, hk =>
        obtain ⟨l, b1, b2, b3⟩ := back_ok h k e.1 a4 (by omega)
        refine ⟨e :: l, ?_, ⟨a1, hxs, a2, a3, b2⟩, by simp [b3, a5]⟩
        rw [backE, if_neg hxs, he]
        simp only [b1, Option.map_some]

theorem scan_len {n : Nat} (inC : Int → Bool) (hC : ∀ x, inC x = true → 0 ≤ x ∧ x < n) : ∀ (es : List Ed) (R : List (Int × Ed)) (Q : List Int) (o : Option Ed) (R' : List (Int × Ed)) (Q' : List Int), scanE start inC es R Q = (o, R', Q') → R'.length + unr n R' ≤ R.length + unr n R
  | [], R, Q, o, R', Q', h => by
    simp only [scanE, Prod.mk.injEq] at h
    obtain ⟨rfl, rfl, rfl⟩ := h
    exact Nat.le_refl _
  | e :: es, R, Q, o, R', Q', h => by
    unfold scanE at h
    by_cases h1 : e.2.1 = start
    · rw [if_pos h1] at h
      simp only [Prod.mk.injEq] at h
      obtain ⟨rfl, rfl, rfl⟩ := h
      exact Nat.le_refl _
    · rw [if_neg h1] at h
      by_cases h2 : ((lookE R e.2.1).isNone && inC e.2.1) = true
      · rw [if_pos h2] at h
        have ih := scan_len inC hC es _ _ o R' Q' h
        rw [Bool.and_eq_true] at h2
        have hr := hC _ h2.2
        have hu := unr_new n R e.2.1 e hr.1 hr.2 h2.1
        simp only [List.length_cons] at ih
        omega
      · rw [if_neg h2] at h
        exact scan_len inC hC es R Q o R' Q' h

theorem bfs_len {n : Nat} (inC : Int → Bool) (hC : ∀ x, inC x = true → 0 ≤ x ∧ x < n) : ∀ (f : Nat) (R : List (Int × Ed)) (Q : List Int) (e : Ed) (v : Int) (R' : List (Int × Ed)), bfsE g start inC f R Q = some (e, v, R') → R'.length + unr n R' ≤ R.length + unr n R
  | 0, R, Q, e, v, R', h => by simp [bfsE] at h
  | f + 1, R, [], e, v, R', h => by simp [bfsE] at h
  | f + 1, R, x :: Q, e, v, R', h => by
    match hs : scanE start inC (gout g x) R Q with
    | (some e1, R1, Q1) =>
      simp only [bfsE, hs, Option.some.injEq, Prod.mk.injEq] at h
      obtain ⟨rfl, rfl, rfl⟩ := h
      exact scan_len inC hC _ _ _ _ _ _ hs
    | (none, R1, Q1) =>
      simp only [bfsE, hs] at h
      have h1 := scan_len inC hC _ _ _ _ _ _ hs
      have h2 := bfs_len inC hC f R1 Q1 e v R' h
      omega

/-- THE PLAIN LAW OF 'cycle'. -/
theorem cycle_plain (hd : Dom g comp start) (inC : Int → Bool) (hC : ∀ x, inC x = decide (x ∈ comp)) (d0 : Nat) (hc : CycLen g comp start d0) :
    ∃ (K : Nat) (e : Ed) (v : Int) (R : List (Int × Ed)) (K' : Nat) (l : List Ed), bfsE g start inC K [(start, (0, 0, 0))] [start] = some (e, v, R) ∧ backE start K' v R = some l ∧
      Ok g comp start start (l.reverse ++ [e]) ∧ (∀ d, CycLen g comp start d → l.length ≤ d) ∧ l.length ≤ g.length := by
  obtain ⟨e, v, R, Q, P, es, D, h1, h2, h3, h4⟩ := bfs_ok hd inC hC d0 hc (1 + unr g.length [(start, (0, 0, 0))]) _ _ _ _ (OI.begin g comp start) (by simp)
  obtain ⟨l, b1, b2, b3⟩ := back_ok h2 (D v) v h2.rv (Nat.le_refl _)
  refine ⟨_, e, v, R, _, l, h1, b1, Ok.ofBack l v [e] b2 ⟨hd.from_eq (h2.inComp hd h2.rv) h3, h3, h4⟩, (fun d hd' => ?_), ?_⟩
  · rw [b3]
    exact h2.least d hd'
  · have h5 := bfs_len (n := g.length) inC (fun x hx => hd.rng x (by rw [hC] at hx; simpa using hx)) _ _ _ _ _ _ h1
    have h6 := h2.sml v h2.rv
    have h7 := unr_le g.length [(start, ((0 : Int), (0 : Int), (0 : Int)))]
    rw [b3]
    simp only [List.length_singleton] at h5
    omega

end
end Go.Proofs.Qxb6603412a
