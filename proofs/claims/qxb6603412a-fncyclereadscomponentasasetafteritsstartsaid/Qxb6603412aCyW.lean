/-
  PLAIN: the law's own search by levels, and the least cycle that it reads off.
-/
import Derived.Test.Qxb6603412aCyQ
namespace Go.Proofs.Qxb6603412a
set_option linter.unusedVariables false

def dAt (dist : List Int) (v : Int) : Int := if v < 0 then -1 else dist.getD v.toNat (-1)
def Good (comp : List Int) (dist : List Int) (L : Int) (e : Ed) : Prop := e.2.1 ∈ comp → 0 ≤ dAt dist e.2.1 ∧ dAt dist e.2.1 ≤ L

structure MI (g : List (List Ed)) (comp : List Int) (start : Int) (dist F N : List Int) (L h : Nat) (es : List Ed) : Prop where
  len : dist.length = g.length
  st : dAt dist start = 0
  rch : ∀ x, 0 ≤ dAt dist x → ∃ d : Nat, dAt dist x = d ∧ d ≤ L + 1 ∧ Reach g comp start d x
  fr : ∀ x ∈ F, dAt dist x = L
  cov : ∀ x, dAt dist x = L → x ∈ F
  nx : ∀ x ∈ N, dAt dist x = L + 1
  ncov : ∀ x, dAt dist x = L + 1 → x ∈ N
  cls : ∀ x, 0 ≤ dAt dist x → dAt dist x < L → ∀ e ∈ gout g x, Good comp dist (dAt dist x + 1) e
  don : ∀ u ∈ F.take h, ∀ e ∈ gout g u, Good comp dist (L + 1) e
  cur : ∀ e ∈ es, Good comp dist (L + 1) e

theorem dAt_set {dist : List Int} {t x v : Int} (h0 : 0 ≤ t) (hn : t < dist.length) : dAt (dist.set t.toNat v) x = if x = t then v else dAt dist x := by
  unfold dAt
  by_cases hx : x < 0
  · rw [if_pos hx, if_pos hx, if_neg (by omega)]
  · rw [if_neg hx, if_neg hx]
    by_cases e : x = t
    · subst e
      rw [if_pos rfl]
      simp [List.getD_eq_getElem?_getD, List.getElem?_set_self (show x.toNat < dist.length by omega)]
    · rw [if_neg e]
      simp [List.getD_eq_getElem?_getD, List.getElem?_set_ne (show t.toNat ≠ x.toNat by omega)]

theorem dAt_rng {dist : List Int} {x : Int} (h : 0 ≤ dAt dist x) : 0 ≤ x ∧ x < dist.length := by
  unfold dAt at h
  by_cases hx : x < 0
  · rw [if_pos hx] at h; omega
  · rw [if_neg hx] at h
    refine ⟨by omega, ?_⟩
    by_cases hl : x.toNat < dist.length
    · omega
    · rw [List.getD_eq_getElem?_getD, List.getElem?_eq_none (by omega)] at h
      simp at h

section
variable {g : List (List Ed)} {comp : List Int} {start : Int} {dist F N : List Int} {L h : Nat} {es : List Ed}

theorem MI.begin (h0 : 0 ≤ start) (hn : start < g.length) : MI g comp start ((List.replicate g.length (-1)).set start.toNat 0) [start] [] 0 0 [] := by
  have key : ∀ x, dAt ((List.replicate g.length (-1)).set start.toNat 0) x = if x = start then 0 else -1 := by
    intro x
    rw [dAt_set h0 (by simpa using hn)]
    by_cases e : x = start
    · rw [if_pos e, if_pos e]
    · rw [if_neg e, if_neg e]
      unfold dAt
      split
      · rfl
      · rw [List.getD_eq_getElem?_getD, List.getElem?_replicate]
        split <;> rfl
  have neg : ∀ x, 0 ≤ dAt ((List.replicate g.length (-1)).set start.toNat 0) x → x = start := by
    intro x hx
    rw [key x] at hx
    split at hx
    · assumption
    · omega
  refine ⟨by simp, by rw [key, if_pos rfl], fun x hx => ?_, fun x hx => ?_, fun x hx => ?_, (fun x hx => by cases hx), fun x hx => ?_, fun x hx hx2 => ?_, (fun u hu => by cases hu), (fun e he => by cases he)⟩
  · have e := neg x hx
    subst e
    exact ⟨0, by rw [key, if_pos rfl]; rfl, by omega, rfl⟩
  · obtain rfl : x = start := by simpa using hx
    rw [key, if_pos rfl]; rfl
  · have e := neg x (by rw [hx]; simp)
    simp [e]
  · have e := neg x (by rw [hx]; simp)
    rw [e, key, if_pos rfl] at hx
    simp at hx
  · have e := neg x hx
    rw [e, key, if_pos rfl] at hx2
    simp at hx2

theorem Good.set {t : Int} (h0 : 0 ≤ t) (hn : t < dist.length) {L' M : Int} (hneg : dAt dist t < 0) {e : Ed} (hg : Good comp dist M e) : Good comp (dist.set t.toNat L') M e := by
  intro he
  obtain ⟨h1, h2⟩ := hg he
  have hne : e.2.1 ≠ t := by intro e'; rw [e'] at h1; omega
  rw [dAt_set h0 hn, if_neg hne]
  exact ⟨h1, h2⟩

theorem MI.set (m : MI g comp start dist F N L h es) {v t : Int} {e : Ed} (hv : v ∈ F) (he : e ∈ gout g v) (het : e.2.1 = t) (hc : t ∈ comp) (h0 : 0 ≤ t) (hn : t < g.length) (hneg : dAt dist t < 0) :
    MI g comp start (dist.set t.toNat ((L : Int) + 1)) F (N ++ [t]) L h (es ++ [e]) := by
  have hn' : t < dist.length := by rw [m.len]; exact hn
  have key : ∀ x, dAt (dist.set t.toNat ((L : Int) + 1)) x = if x = t then (L : Int) + 1 else dAt dist x := fun x => dAt_set h0 hn'
  have old : ∀ x, 0 ≤ dAt dist x → dAt (dist.set t.toNat ((L : Int) + 1)) x = dAt dist x := by
    intro x hx
    rw [key, if_neg (by intro e'; rw [e'] at hx; omega)]
  refine ⟨by simp [m.len], ?_, fun x hx => ?_, fun x hx => ?_, fun x hx => ?_, fun x hx => ?_, fun x hx => ?_, fun x hx hx2 => ?_, fun u hu e' he' => ?_, fun e' he' => ?_⟩
  · rw [old start (by rw [m.st]; omega), m.st]
  · rw [key] at hx ⊢
    by_cases e' : x = t
    · rw [if_pos e']
      obtain ⟨d, h1, h2, h3⟩ := m.rch v (by rw [m.fr v hv]; omega)
      have hd : d = L := by have := m.fr v hv; omega
      subst hd
      exact ⟨d + 1, by omega, by omega, by rw [e']; exact hc, v, h3, e, he, by rw [e']; exact het⟩
    · rw [if_neg e'] at hx ⊢
      exact m.rch x hx
  · rw [old x (by rw [m.fr x hx]; omega)]; exact m.fr x hx
  · rw [key] at hx
    by_cases e' : x = t
    · rw [if_pos e'] at hx; omega
    · rw [if_neg e'] at hx; exact m.cov x hx
  · rw [key]
    rcases List.mem_append.1 hx with hx | hx
    · by_cases e' : x = t
      · rw [if_pos e']
      · rw [if_neg e']; exact m.nx x hx
    · rw [if_pos (by simpa using hx)]
  · rw [key] at hx
    by_cases e' : x = t
    · simp [e']
    · rw [if_neg e'] at hx; simp [m.ncov x hx]
  · rw [key] at hx hx2 ⊢
    by_cases e' : x = t
    · rw [if_pos e'] at hx2; omega
    · rw [if_neg e'] at hx hx2 ⊢
      exact fun e2 he2 => (m.cls x hx hx2 e2 he2).set h0 hn' hneg
  · exact (m.don u hu e' he').set h0 hn' hneg
  · rcases List.mem_append.1 he' with he' | he'
    · exact (m.cur e' he').set h0 hn' hneg
    · obtain rfl : e' = e := by simpa using he'
      intro _
      rw [het, key, if_pos rfl]
      omega

theorem MI.skip (m : MI g comp start dist F N L h es) {e : Ed} (hs : e.2.1 ∈ comp → 0 ≤ dAt dist e.2.1) : MI g comp start dist F N L h (es ++ [e]) := by
  refine { m with cur := ?_ }
  intro e' he'
  rcases List.mem_append.1 he' with he' | he'
  · exact m.cur e' he'
  · obtain rfl : e' = e := by simpa using he'
    intro hc
    obtain ⟨d, h1, h2, _⟩ := m.rch _ (hs hc)
    exact ⟨hs hc, by omega⟩

theorem MI.next {v : Int} (m : MI g comp start dist F N L h (gout g v)) (hv : F[h]? = some v) : MI g comp start dist F N L (h + 1) [] := by
  refine { m with don := ?_, cur := (fun e he => by cases he) }
  intro u hu
  rw [List.take_add_one, hv] at hu
  rcases List.mem_append.1 hu with hu | hu
  · exact m.don u hu
  · obtain rfl : u = v := by simpa using hu
    exact m.cur

theorem MI.level (m : MI g comp start dist F N L F.length []) : MI g comp start dist N [] (L + 1) 0 [] := by
  refine ⟨m.len, m.st, fun x hx => ?_, fun x hx => ?_, fun x hx => ?_, (fun x hx => by cases hx), fun x hx => ?_, fun x hx hx2 => ?_, (fun u hu => by cases hu), (fun e he => by cases he)⟩
  · obtain ⟨d, h1, h2, h3⟩ := m.rch x hx
    exact ⟨d, h1, by omega, h3⟩
  · have := m.nx x hx; omega
  · exact m.ncov x (by omega)
  · obtain ⟨d, h1, h2, _⟩ := m.rch x (by omega)
    omega
  · by_cases e : dAt dist x = L
    · intro e' he'
      rw [e]
      exact m.don x (by rw [List.take_of_length_le (Nat.le_refl _)]; exact m.cov x e) e' he'
    · exact m.cls x hx (by omega)

/-- The search is over. -/
structure FI (g : List (List Ed)) (comp : List Int) (start : Int) (dist : List Int) : Prop where
  len : dist.length = g.length
  rch : ∀ x, 0 ≤ dAt dist x → ∃ d : Nat, dAt dist x = d ∧ Reach g comp start d x
  all : ∀ (d : Nat) x, Reach g comp start d x → 0 ≤ dAt dist x ∧ dAt dist x ≤ d

theorem MI.fin (m : MI g comp start dist [] [] L 0 []) : FI g comp start dist := by
  refine ⟨m.len, fun x hx => ?_, fun d => ?_⟩
  · obtain ⟨d, h1, _, h3⟩ := m.rch x hx
    exact ⟨d, h1, h3⟩
  · induction d with
    | zero =>
      intro x hx
      have hx' : x = start := hx
      rw [hx', m.st]
      simp
    | succ d ih =>
      rintro x ⟨hc, u, hu, e, he, het⟩
      obtain ⟨h1, h2⟩ := ih u hu
      obtain ⟨d', h3, h4, _⟩ := m.rch u h1
      have n1 : dAt dist u ≠ L := fun e' => by have := m.cov u e'; cases this
      have n2 : dAt dist u ≠ L + 1 := fun e' => by have := m.ncov u e'; cases this
      have := m.cls u h1 (by omega) e he (by rw [het]; exact hc)
      rw [het] at this
      exact ⟨this.1, by omega⟩
end

def BGood (start : Int) (dist : List Int) (best : Int) (u : Int) (e : Ed) : Prop := 0 ≤ dAt dist u → e.2.1 = start → 0 ≤ best ∧ best ≤ dAt dist u + 1
structure BI (g : List (List Ed)) (comp : List Int) (start : Int) (dist : List Int) (best : Int) (k : Nat) (es : List Ed) : Prop where
  bs : best = -1 ∨ ∃ d : Nat, best = d + 1 ∧ CycLen g comp start d
  don : ∀ u : Nat, u < k → ∀ e ∈ gout g (u : Int), BGood start dist best u e
  cur : ∀ e ∈ es, BGood start dist best k e

section
variable {g : List (List Ed)} {comp : List Int} {start : Int} {dist : List Int} {best : Int} {k : Nat} {es : List Ed}

theorem BI.begin : BI g comp start dist (-1) 0 [] := ⟨.inl rfl, fun u hu => absurd hu (Nat.not_lt_zero _), fun e he => by cases he⟩
theorem BI.skip (b : BI g comp start dist best k es) {e : Ed} (h : 0 ≤ dAt dist k → e.2.1 = start → 0 ≤ best ∧ best ≤ dAt dist k + 1) : BI g comp start dist best k (es ++ [e]) :=
  ⟨b.bs, b.don, fun e' he' => by
    rcases List.mem_append.1 he' with he' | he'
    · exact b.cur e' he'
    · obtain rfl : e' = e := by simpa using he'
      exact h⟩
theorem BI.take (b : BI g comp start dist best k es) (f : FI g comp start dist) {e : Ed} (he : e ∈ gout g (k : Int)) (hs : e.2.1 = start) (h0 : 0 ≤ dAt dist k) (hb : best < 0 ∨ dAt dist k + 1 < best) : BI g comp start dist (dAt dist k + 1) k (es ++ [e]) := by
  have mono : ∀ u e', BGood start dist best u e' → BGood start dist (dAt dist k + 1) u e' := by
    intro u e' hg h1 h2
    have := hg h1 h2
    exact ⟨by omega, by omega⟩
  refine ⟨.inr ?_, fun u hu e' he' => mono _ _ (b.don u hu e' he'), fun e' he' => ?_⟩
  · obtain ⟨d, h1, h2⟩ := f.rch _ h0
    exact ⟨d, by omega, k, h2, e, he, hs⟩
  · rcases List.mem_append.1 he' with he' | he'
    · exact mono _ _ (b.cur e' he')
    · exact fun _ _ => ⟨by omega, by omega⟩
theorem BI.next (b : BI g comp start dist best k (gout g (k : Int))) : BI g comp start dist best (k + 1) [] :=
  ⟨b.bs, fun u hu => by
    by_cases e : u = k
    · subst e; exact b.cur
    · exact b.don u (by omega), fun e he => by cases he⟩
theorem BI.neg (b : BI g comp start dist best k []) (h : dAt dist k < 0) : BI g comp start dist best (k + 1) [] :=
  ⟨b.bs, fun u hu => by
    by_cases e : u = k
    · subst e; exact fun e' _ h1 => by omega
    · exact b.don u (by omega), fun e he => by cases he⟩

/-- What the law's search answers. -/
def Best (g : List (List Ed)) (comp : List Int) (start : Int) (best : Int) : Prop := best < 0 ∨ (Dom g comp start ∧ ∃ d : Nat, best = d + 1 ∧ CycLen g comp start d ∧ ∀ d', CycLen g comp start d' → d ≤ d')

theorem BI.fin (b : BI g comp start dist best g.length []) (f : FI g comp start dist) (hd : Dom g comp start) : Best g comp start best := by
  rcases b.bs with h | ⟨d, h1, h2⟩
  · exact .inl (by omega)
  · refine .inr ⟨hd, d, h1, h2, ?_⟩
    rintro d' ⟨v, hv, e, he, het⟩
    obtain ⟨a1, a2⟩ := f.all d' v hv
    obtain ⟨r1, r2⟩ := dAt_rng a1
    rw [f.len] at r2
    have := b.don v.toNat (by omega) e (by rw [Int.toNat_of_nonneg r1]; exact he) (by rw [Int.toNat_of_nonneg r1]; exact a1) het
    rw [Int.toNat_of_nonneg r1] at this
    omega
end

/-! ### How many are not reached -/
def negs (dist : List Int) : Nat := dist.countP (fun z => decide (z < 0))
theorem negs_le (dist : List Int) : negs dist ≤ dist.length := List.countP_le_length
theorem negs_set : ∀ (dist : List Int) (i : Nat) (v : Int), i < dist.length → dist.getD i (-1) < 0 → 0 ≤ v → negs (dist.set i v) + 1 = negs dist
  | z :: r, 0, v, _, h, hv => by
    have h' : z < 0 := by simpa using h
    simp only [List.set_cons_zero, negs, List.countP_cons]
    simp [h', show ¬ v < 0 by omega]
  | z :: r, i + 1, v, hi, h, hv => by
    have ih := negs_set r i v (by simpa using hi) (by simpa using h) hv
    simp only [List.set_cons_succ, negs, List.countP_cons] at ih ⊢
    omega

/-- A chain of edges back to start is a cycle of its length. -/
theorem Ok.len {g : List (List Ed)} {comp : List Int} {start : Int} : ∀ (es : List Ed) (cur : Int) (d : Nat), Ok g comp start cur es → Reach g comp start d cur → CycLen g comp start (d + es.length - 1)
  | [], _, _, h, _ => h.elim
  | [e], cur, d, ⟨h1, h2, h3⟩, hr => ⟨cur, by simpa using hr, e, h2, h3⟩
  | e :: e' :: r, cur, d, ⟨h1, h2, h3, h4, h5⟩, hr => by
    have := Ok.len (e' :: r) e.2.1 (d + 1) h5 ⟨h4, cur, hr, e, h2, rfl⟩
    have e2 : d + (e :: e' :: r).length - 1 = d + 1 + (e' :: r).length - 1 := by simp only [List.length_cons]; omega
    rw [e2]; exact this
end Go.Proofs.Qxb6603412a
