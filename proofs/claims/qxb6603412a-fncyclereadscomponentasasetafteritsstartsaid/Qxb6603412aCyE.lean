/-
  The graph that the law builds; the size tests.
-/
import Derived.Test.Qxb6603412aCyD
namespace Go.Proofs.Qxb6603412a
open Go.RowKit
set_option linter.unusedVariables false

set_option maxHeartbeats 800000 in
theorem graph22_none (v : Value) (zs : List Int) (w : World) (hz : zs.length ≤ 1048576) (hv : IsInts w v zs) :
    Calls Try.prog 22 #[v, .slice none 0 0] w fun e w' => ∃ p, e = .returned p ∧ IsGraph w' p [] ∧ Below w.heap.size w w' := by
  have hnil := fun wx => run_neq_slice_nil_any (P := Try.prog) (w := wx) 48 22 none 0 0 0 0 Try.underlying48
  go_enter Try.func22, Try.ntmps22
  go_wp2_with fail
  refine (clone18 v zs _ hz hv).mono ?_
  rintro e w1 ⟨v1, rfl, hv1, hb1⟩
  go_wp2
  refine wp_loop_rounds 1 ?_
  rw [rounds_succ]
  go_wp2_with fail
  refine (mkGraph29 _ _ _ (by obtain ⟨a, c, h, _⟩ := hv1.shape; exact ⟨a, _, c, h⟩) ⟨_, _, _, rfl⟩).mono ?_
  rintro e w2 ⟨rfl, rfl⟩
  go_wp2
  go_ret
  exact ⟨_, rfl, ⟨_, .slice none 0 0, rfl, by simp, by simp, none, 0, rfl, fun _ => ⟨rfl, rfl⟩, .inl rfl⟩, hb1.alloc hb1.size _⟩

set_option maxHeartbeats 800000 in
theorem graph22_empty (v : Value) (zs : List Int) (a : Addr) (c : Nat) (w : World) (hz : zs.length ≤ 1048576) (hv : IsInts w v zs) :
    Calls Try.prog 22 #[v, .slice (some a) 0 c] w fun e w' => ∃ p, e = .returned p ∧ IsGraph w' p [] ∧ Below w.heap.size w w' := by
  have hnil := fun wx => run_neq_slice_nil_any (P := Try.prog) (w := wx) 48 22 (some a) 0 c 0 0 Try.underlying48
  obtain ⟨i0, hi, hz0, hz1, hz2⟩ := info_parts Try.info32
  go_enter Try.func22, Try.ntmps22
  go_wp2_with fail
  refine (clone18 v zs _ hz hv).mono ?_
  rintro e w1 ⟨v1, rfl, hv1, hb1⟩
  go_wp2_with (at_make; refine wpList_make_full _ rfl _ _ 65 rfl w1.heap.size 32 i0 (.slice none 0 0) 1 Try.underlying65 hi hz0 hz1 .i64 .i64 _ _ 0 rfl rfl rfl rfl (by rw [hz2]; omega) (by unfold maxLen; omega) (Nat.le_refl _) ?_; intro w2 hown hgrow)
  have hb2 : Below w1.heap.size w1 w2 := (Below.refl _ _).grown hgrow (Nat.le_refl _) (by intro k hk; cases hk)
  clear hown hgrow
  refine wp_loop_rounds 1 ?_
  rw [rounds_succ]
  go_wp2_with fail
  refine (mkGraph29 _ _ _ (by obtain ⟨a, c, h, _⟩ := hv1.shape; exact ⟨a, _, c, h⟩) ⟨_, _, _, rfl⟩).mono ?_
  rintro e w3 ⟨rfl, rfl⟩
  go_wp2
  go_ret
  refine ⟨_, rfl, ⟨_, .slice (some ⟨w1.heap.size, 0, none⟩) 0 0, rfl, by simp, by simp, _, _, rfl, (fun h => (by cases h)), .inl rfl⟩, ?_⟩
  have hb := hb1.trans (hb2.mono hb1.size)
  exact hb.alloc hb.size _

set_option maxHeartbeats 800000 in
theorem graph22_some (v : Value) (zs : List Int) (b off n c : Nat) (g : List (List Ed)) (w : World) (hz : zs.length ≤ 1048576) (hv : IsInts w v zs) (hn : n ≤ 1048576) (hb : b < w.heap.size) (hl : n = g.length) (hlen : ∀ i, i < n → (g.getD i []).length ≤ 1048576)
    (hc : ∀ i, i < n → ∃ x, w.cell? ⟨b, off + i, none⟩ = some x ∧ IsEdges w x (g.getD i [])) :
    Calls Try.prog 22 #[v, .slice (some ⟨b, off, none⟩) n c] w fun e w' => ∃ p, e = .returned p ∧ IsGraph w' p g ∧ Below w.heap.size w w' := by
  have hnil := fun wx => run_neq_slice_nil_any (P := Try.prog) (w := wx) 48 22 (some ⟨b, off, none⟩) n c 0 0 Try.underlying48
  obtain ⟨i0, hi, hz0, hz1, hz2⟩ := info_parts Try.info32
  have HC := show Hid _ from hc
  have HL := show Hid _ from hl
  have HN := show Hid _ from hlen
  clear hc hl hlen
  go_enter Try.func22, Try.ntmps22
  go_wp2_with fail
  refine (clone18 v zs _ hz hv).mono ?_
  rintro e w1 ⟨v1, rfl, hv1, hb1⟩
  have hbb : b < w1.heap.size := Nat.lt_of_lt_of_le hb hb1.size
  obtain ⟨av, cv, rfl, _⟩ := hv1.shape
  clear hv1
  go_wp2_with (at_make; refine wpList_make_full _ rfl _ _ 65 rfl w1.heap.size 32 i0 (.slice none 0 0) 1 Try.underlying65 hi hz0 hz1 .i64 .i64 _ _ n rfl rfl rfl rfl (by rw [hz2]; omega) (by unfold maxLen; omega) (Nat.le_refl _) ?_; intro w2 hown hgrow)
  have hb2 : Below w1.heap.size w1 w2 := (Below.refl _ _).grown hgrow (Nat.le_refl _) (by intro k hk; cases hk)
  clear hgrow hnil
  go_loopw [7] (fun i wr => ∃ (k : Nat) (xs : List Value), k ≤ n ∧ i = .int .i64 k ∧ wr.ownsRow w1.heap.size 32 1 (.slice (some ⟨w1.heap.size, 0, none⟩) n n) n xs ∧ Filled wr w1.heap.size k g xs ∧ Below w1.heap.size w1 wr)
    (fun i _ => n - (intOf i).toNat)
  case atStart => exact ⟨0, _, Nat.zero_le _, rfl, hown, (fun i hi => absurd hi (Nat.not_lt_zero _)), hb2⟩
  case round =>
    obtain ⟨k, xs, hk, rfl, hown, hfil, hbr⟩ := hrel
    by_cases hlt : k < n
    · obtain ⟨x, c0, hx⟩ := HC.out k hlt
      have c1 : wr.cell? ⟨b, off + k, none⟩ = some x := (hbr.cell (by exact hbb)).trans ((hb1.cell (by exact hb)).trans c0)
      have hx1 := (hx.later hb1).later hbr
      go_wp2_with fail
      refine (in12 x _ _ (HN.out k hlt) hx1).mono ?_
      rintro e w3 ⟨v', rfl, hv, hf, hb3⟩
      have hown2 := hown.kept (grown_of_below hb3) (.inr (by simp [Value.ownBlock]))
      have hfil2 := hfil.later hb3
      have hlt2 : w1.heap.size + 1 ≤ wr.heap.size := (hown.lt _ rfl).2
      have hf2 : From (w1.heap.size + 1) v' := fun a n c h => Nat.le_trans hlt2 (hf a n c h)
      have hxl : k < xs.length := by rw [hown.1]; omega
      have hfil3 := hfil2.next hxl hv hf2
      have hown3 := (hown2.stored k v').1
      have hfz := hown2.frozenAt k
      obtain ⟨u, hu⟩ : ∃ u, w3.cell? ⟨w1.heap.size, k, none⟩ = some u := by
        rw [hown2.cellAt k (by omega)]
        exact ⟨_, List.getElem?_eq_getElem hxl⟩
      have hb4 : Below w1.heap.size w1 (w3.setCell ⟨w1.heap.size, k, none⟩ v') := (hbr.trans (hb3.mono hbr.size)).setCell (by simp) _
      obtain ⟨av', cv', rfl, _⟩ := hv.shape
      have H3 := show Hid _ from hfil3
      have O3 := show Hid _ from hown3
      clear hfil3 hown3 hv hf hf2 hfil2
      go_wp2
      go_roundw
      case rel => exact ⟨k + 1, _, by omega, by go_num, O3.out, H3.out, hb4⟩
      case measure => simp [intOf]; omega
    · have hkn : k = n := by omega
      subst hkn
      have hout := hfil.out HL.out.symm hown
      have hbA := hb1.trans (hbr.mono hb1.size)
      clear hfil hown
      go_wp2_with fail
      refine (mkGraph29 _ _ _ ⟨_, _, _, rfl⟩ ⟨_, _, _, rfl⟩).mono ?_
      rintro e w3 ⟨rfl, rfl⟩
      go_wp2
      go_ret
      exact ⟨_, rfl, ⟨_, _, rfl, by simp, by simp, hout.later ((Below.refl _ _).alloc (Nat.le_refl _) _)⟩, hbA.alloc hbA.size _⟩

theorem graph22 (v x : Value) (zs : List Int) (g : List (List Ed)) (w : World) (hz : zs.length ≤ 1048576) (hv : IsInts w v zs) (hn : g.length ≤ 1048576) (hlen : ∀ i, i < g.length → (g.getD i []).length ≤ 1048576) (h : IsOut w x g) :
    Calls Try.prog 22 #[v, x] w fun e w' => ∃ p, e = .returned p ∧ IsGraph w' p g ∧ Below w.heap.size w w' := by
  obtain ⟨a, c, rfl, hc0, h3⟩ := h
  cases a with
  | none =>
    obtain ⟨h1, rfl⟩ := hc0 rfl
    obtain rfl := List.eq_nil_of_length_eq_zero h1
    exact graph22_none v zs w hz hv
  | some a =>
    by_cases h0 : g.length = 0
    · obtain rfl := List.eq_nil_of_length_eq_zero h0
      exact graph22_empty v zs a c w hz hv
    · rcases h3 with h3 | ⟨b, off, h3, h4, h5⟩
      · exact absurd h3 h0
      · obtain rfl : a = ⟨b, off, none⟩ := by simpa using h3
        exact graph22_some v zs b off g.length c g w hz hv hn h4 rfl hlen h5
end Go.Proofs.Qxb6603412a
