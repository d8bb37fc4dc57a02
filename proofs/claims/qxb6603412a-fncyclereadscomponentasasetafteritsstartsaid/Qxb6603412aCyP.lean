/-
  PLAIN: the search of 'cycle' as functions on lists; it finds a cycle, chained, of least length.
-/
import Derived.Test.Qxb6603412aCyA
namespace Go.Proofs.Qxb6603412a
set_option linter.unusedVariables false

def gout (g : List (List Ed)) (v : Int) : List Ed := g.getD v.toNat []

/-- The domain of 'cycle': the component's nodes are nodes, an edge is listed under its own node. -/
structure Dom (g : List (List Ed)) (comp : List Int) (start : Int) : Prop where
  mem : start ∈ comp
  rng : ∀ c ∈ comp, 0 ≤ c ∧ c < g.length
  frm : ∀ v : Nat, v < g.length → ∀ e ∈ g.getD v [], e.1 = (v : Int)

def Reach (g : List (List Ed)) (comp : List Int) (start : Int) : Nat → Int → Prop
  | 0, v => v = start
  | d + 1, v => v ∈ comp ∧ ∃ u, Reach g comp start d u ∧ ∃ e ∈ gout g u, e.2.1 = v

/-- There is a cycle through start of d + 1 edges. -/
def CycLen (g : List (List Ed)) (comp : List Int) (start : Int) (d : Nat) : Prop := ∃ v, Reach g comp start d v ∧ ∃ e ∈ gout g v, e.2.1 = start

def lookE : List (Int × Ed) → Int → Option Ed
  | [], _ => none
  | (a, e) :: r, k => if a = k then some e else lookE r k

def scanE (start : Int) (inC : Int → Bool) : List Ed → List (Int × Ed) → List Int → Option Ed × List (Int × Ed) × List Int
  | [], R, Q => (none, R, Q)
  | e :: r, R, Q =>
    if e.2.1 = start then (some e, R, Q)
    else if (lookE R e.2.1).isNone && inC e.2.1 then scanE start inC r ((e.2.1, e) :: R) (Q ++ [e.2.1])
    else scanE start inC r R Q

def bfsE (g : List (List Ed)) (start : Int) (inC : Int → Bool) : Nat → List (Int × Ed) → List Int → Option (Ed × Int × List (Int × Ed))
  | 0, _, _ => none
  | _ + 1, _, [] => none
  | f + 1, R, v :: Q =>
    match scanE start inC (gout g v) R Q with
    | (some e, R', _) => some (e, v, R')
    | (none, R', Q') => bfsE g start inC f R' Q'

def backE (start : Int) : Nat → Int → List (Int × Ed) → Option (List Ed)
  | 0, _, _ => none
  | f + 1, v, R => if v = start then some [] else
    match lookE R v with
    | none => none
    | some e => (backE start f e.1 R).map (e :: ·)

/-- The edges es lead from cur back to start, through the component. -/
def Ok (g : List (List Ed)) (comp : List Int) (start : Int) : Int → List Ed → Prop
  | _, [] => False
  | cur, [e] => e.1 = cur ∧ e ∈ gout g cur ∧ e.2.1 = start
  | cur, e :: r => e.1 = cur ∧ e ∈ gout g cur ∧ e.2.1 ≠ start ∧ e.2.1 ∈ comp ∧ Ok g comp start e.2.1 r

theorem Ok.cons {g : List (List Ed)} {comp : List Int} {start cur : Int} {e : Ed} {r : List Ed} (h1 : e.1 = cur) (h2 : e ∈ gout g cur) (h3 : e.2.1 ≠ start) (h4 : e.2.1 ∈ comp) (h : Ok g comp start e.2.1 r) : Ok g comp start cur (e :: r) := by
  cases r with
  | nil => exact absurd h (by simp [Ok])
  | cons x r => exact ⟨h1, h2, h3, h4, h⟩

/-- A path told backward. -/
def BackOk (g : List (List Ed)) (comp : List Int) (start : Int) : Int → List Ed → Prop
  | v, [] => v = start
  | v, e :: l => e.2.1 = v ∧ v ≠ start ∧ v ∈ comp ∧ e ∈ gout g e.1 ∧ BackOk g comp start e.1 l

theorem Ok.ofBack {g : List (List Ed)} {comp : List Int} {start : Int} : ∀ (l : List Ed) (v : Int) (es : List Ed), BackOk g comp start v l → Ok g comp start v es → Ok g comp start start (l.reverse ++ es)
  | [], v, es, h, hk => by
    have h' : v = start := h
    rw [← h']; simpa [h'] using hk
  | e :: l, v, es, ⟨h1, h2, h3, h4, h5⟩, hk => by
    rw [List.reverse_cons, List.append_assoc]
    exact Ok.ofBack l e.1 (e :: es) h5 (Ok.cons rfl h4 (by rw [h1]; exact h2) (by rw [h1]; exact h3) (by rw [h1]; exact hk))

/-! ### How many nodes are not reached yet -/
def unr (n : Nat) (R : List (Int × Ed)) : Nat := (List.range n).countP (fun t : Nat => (lookE R (t : Int)).isNone)

theorem countP_lt {α : Type} (p q : α → Bool) : ∀ (l : List α), (∀ x ∈ l, q x = true → p x = true) → (∃ x ∈ l, p x = true ∧ q x = false) → l.countP q < l.countP p
  | [], _, ⟨x, hx, _⟩ => by simp at hx
  | y :: r, h, ⟨x, hx, h1, h2⟩ => by
    have hle : r.countP q ≤ r.countP p := List.countP_mono_left (fun z hz => h z (by simp [hz]))
    rcases List.mem_cons.1 hx with e | hx
    · subst e
      rw [List.countP_cons_of_neg (by simp [h2]), List.countP_cons_of_pos h1]
      omega
    · have ih := countP_lt p q r (fun z hz => h z (by simp [hz])) ⟨x, hx, h1, h2⟩
      by_cases hq : q y = true
      · rw [List.countP_cons_of_pos hq, List.countP_cons_of_pos (h y (by simp) hq)]
        omega
      · rw [List.countP_cons_of_neg hq]
        by_cases hp : p y = true
        · rw [List.countP_cons_of_pos hp]; omega
        · rw [List.countP_cons_of_neg hp]; exact ih

theorem unr_le (n : Nat) (R : List (Int × Ed)) : unr n R ≤ n := by
  have := List.countP_le_length (p := fun t : Nat => (lookE R (t : Int)).isNone) (l := List.range n)
  simpa [unr] using this

theorem unr_new (n : Nat) (R : List (Int × Ed)) (t : Int) (e : Ed) (h0 : 0 ≤ t) (hn : t < n) (h : (lookE R t).isNone = true) : unr n ((t, e) :: R) + 1 ≤ unr n R := by
  unfold unr
  refine countP_lt _ _ _ (fun x _ hx => ?_) ⟨t.toNat, by simp; omega, ?_, ?_⟩
  · simp only [lookE] at hx
    split at hx
    · simp at hx
    · exact hx
  · rw [Int.toNat_of_nonneg h0]; exact h
  · simp [lookE, Int.toNat_of_nonneg h0]

/-! ### The search's invariant -/
/-- While the edges of v are scanned: those in 'es' are done; P: the nodes done before; D: the depths. -/
structure SI (g : List (List Ed)) (comp : List Int) (start : Int) (R : List (Int × Ed)) (Q : List Int) (P : Int → Prop) (v : Int) (es : List Ed) (D : Int → Nat) : Prop where
  s0 : (lookE R start).isSome = true
  d0 : D start = 0
  ent : ∀ x e, lookE R x = some e → x ≠ start → e.2.1 = x ∧ x ∈ comp ∧ e ∈ gout g e.1 ∧ (lookE R e.1).isSome = true ∧ D x = D e.1 + 1
  all : ∀ x, (lookE R x).isSome = true → P x ∨ x = v ∨ x ∈ Q
  rv : (lookE R v).isSome = true
  rq : ∀ x ∈ Q, (lookE R x).isSome = true
  rp : ∀ x, P x → (lookE R x).isSome = true
  srt : Q.Pairwise (fun a b => D a ≤ D b)
  lo : ∀ a ∈ Q, D v ≤ D a
  hi : ∀ a ∈ Q, D a ≤ D v + 1
  pv : ∀ u, P u → D u ≤ D v
  cls : ∀ u, P u → ∀ e ∈ gout g u, e.2.1 ≠ start ∧ (e.2.1 ∈ comp → (lookE R e.2.1).isSome = true ∧ D e.2.1 ≤ D u + 1)
  cur : ∀ e ∈ es, e.2.1 ≠ start ∧ (e.2.1 ∈ comp → (lookE R e.2.1).isSome = true ∧ D e.2.1 ≤ D v + 1)
  sml : ∀ x, (lookE R x).isSome = true → D x < R.length

theorem lookE_cons_ne {R : List (Int × Ed)} {t x : Int} {e : Ed} (h : t ≠ x) : lookE ((t, e) :: R) x = lookE R x := by simp [lookE, h]
theorem lookE_cons_eq {R : List (Int × Ed)} {t : Int} {e : Ed} : lookE ((t, e) :: R) t = some e := by simp [lookE]

theorem SI.skip {g : List (List Ed)} {comp : List Int} {start : Int} {R : List (Int × Ed)} {Q : List Int} {P : Int → Prop} {v : Int} {es : List Ed} {D : Int → Nat} (h : SI g comp start R Q P v es D) {e : Ed} (h1 : e.2.1 ≠ start)
    (h2 : e.2.1 ∈ comp → (lookE R e.2.1).isSome = true) : SI g comp start R Q P v (es ++ [e]) D := by
  refine { h with cur := ?_ }
  intro x hx
  rcases List.mem_append.1 hx with hx | hx
  · exact h.cur x hx
  · obtain rfl : x = e := by simpa using hx
    refine ⟨h1, fun hc => ?_⟩
    have hr := h2 hc
    refine ⟨hr, ?_⟩
    rcases h.all _ hr with hp | hp | hp
    · have := h.pv _ hp; omega
    · rw [hp]; omega
    · exact h.hi _ hp

theorem SI.new {g : List (List Ed)} {comp : List Int} {start : Int} {R : List (Int × Ed)} {Q : List Int} {P : Int → Prop} {v : Int} {es : List Ed} {D : Int → Nat} (h : SI g comp start R Q P v es D) {e : Ed} (h1 : e.2.1 ≠ start)
    (h2 : (lookE R e.2.1).isNone = true) (h3 : e.2.1 ∈ comp) (h4 : e.1 = v) (h5 : e ∈ gout g v) :
    SI g comp start ((e.2.1, e) :: R) (Q ++ [e.2.1]) P v (es ++ [e]) (fun x => if x = e.2.1 then D v + 1 else D x) := by
  generalize ht : e.2.1 = t at *
  have hsome : ∀ {x}, (lookE R x).isSome = true → x ≠ t := fun hx e => by rw [e] at hx; simp [Option.isNone_iff_eq_none.1 h2] at hx
  have keep : ∀ {x}, (lookE R x).isSome = true → (lookE ((t, e) :: R) x).isSome = true ∧ (if x = t then D v + 1 else D x) = D x := fun hx => by
    have hne := hsome hx
    exact ⟨by rw [lookE_cons_ne (Ne.symm hne)]; exact hx, by rw [if_neg hne]⟩
  have hv := keep h.rv
  have hst := keep h.s0
  refine ⟨hst.1, by rw [hst.2]; exact h.d0, ?_, ?_, hv.1, ?_, ?_, ?_, ?_, ?_, ?_, ?_, ?_, ?_⟩
  · intro x e' hx hxs
    by_cases hxt : x = t
    · subst hxt
      rw [lookE_cons_eq] at hx
      obtain rfl : e = e' := by simpa using hx
      refine ⟨ht, h3, by rw [h4]; exact h5, by rw [h4]; exact hv.1, ?_⟩
      rw [if_pos rfl, h4, hv.2]
    · rw [lookE_cons_ne (Ne.symm hxt)] at hx
      obtain ⟨a1, a2, a3, a4, a5⟩ := h.ent x e' hx hxs
      have k := keep a4
      exact ⟨a1, a2, a3, k.1, by rw [if_neg hxt, k.2]; exact a5⟩
  · intro x hx
    by_cases hxt : x = t
    · exact .inr (.inr (by simp [hxt]))
    · rw [lookE_cons_ne (Ne.symm hxt)] at hx
      rcases h.all x hx with hp | hp | hp
      · exact .inl hp
      · exact .inr (.inl hp)
      · exact .inr (.inr (by simp [hp]))
  · intro x hx
    rcases List.mem_append.1 hx with hx | hx
    · exact (keep (h.rq x hx)).1
    · obtain rfl : x = t := by simpa using hx
      rw [lookE_cons_eq]; rfl
  · intro x hx
    exact (keep (h.rp x hx)).1
  · rw [List.pairwise_append]
    refine ⟨?_, by simp, ?_⟩
    · refine List.Pairwise.imp_of_mem ?_ h.srt
      intro a b ha hb hab
      rw [(keep (h.rq a ha)).2, (keep (h.rq b hb)).2]
      exact hab
    · intro a ha b hb
      obtain rfl : b = t := by simpa using hb
      rw [(keep (h.rq a ha)).2, if_pos rfl]
      exact h.hi a ha
  · intro a ha
    rw [hv.2]
    rcases List.mem_append.1 ha with ha | ha
    · rw [(keep (h.rq a ha)).2]; exact h.lo a ha
    · obtain rfl : a = t := by simpa using ha
      rw [if_pos rfl]; omega
  · intro a ha
    rw [hv.2]
    rcases List.mem_append.1 ha with ha | ha
    · rw [(keep (h.rq a ha)).2]; exact h.hi a ha
    · obtain rfl : a = t := by simpa using ha
      rw [if_pos rfl]; omega
  · intro u hu
    rw [hv.2, (keep (h.rp u hu)).2]
    exact h.pv u hu
  · intro u hu e' he'
    obtain ⟨a1, a2⟩ := h.cls u hu e' he'
    refine ⟨a1, fun hc => ?_⟩
    obtain ⟨b1, b2⟩ := a2 hc
    have k := keep b1
    exact ⟨k.1, by rw [k.2, (keep (h.rp u hu)).2]; exact b2⟩
  · intro x hx
    rcases List.mem_append.1 hx with hx | hx
    · obtain ⟨a1, a2⟩ := h.cur x hx
      refine ⟨a1, fun hc => ?_⟩
      obtain ⟨b1, b2⟩ := a2 hc
      have k := keep b1
      exact ⟨k.1, by rw [k.2, hv.2]; exact b2⟩
    · obtain rfl : x = e := by simpa using hx
      refine ⟨by rw [ht]; exact h1, fun _ => ?_⟩
      rw [ht, lookE_cons_eq, if_pos rfl, hv.2]
      exact ⟨rfl, Nat.le_refl _⟩
  · intro x hx
    by_cases hxt : x = t
    · rw [if_pos hxt]
      have := h.sml v h.rv
      simp only [List.length_cons]; omega
    · rw [lookE_cons_ne (Ne.symm hxt)] at hx
      rw [if_neg hxt]
      have := h.sml x hx
      simp only [List.length_cons]; omega

end Go.Proofs.Qxb6603412a
