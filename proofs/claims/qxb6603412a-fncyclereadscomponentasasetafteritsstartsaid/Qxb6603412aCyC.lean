/-
  The clone of a slice of slices of edges; the size tests.
-/
import Derived.Test.Qxb6603412aCyB
namespace Go.Proofs.Qxb6603412a
open Go.RowKit
set_option linter.unusedVariables false

theorem clone19_nil (w : World) :
    Calls Try.prog 19 #[.slice none 0 0] w fun e w' => e = .returned (.slice none 0 0) ∧ w' = w := by
  have hnil := fun wx => Lib.run_eql_slice_nil (P := Try.prog) (w := wx) 48 22 none 0 0 0 0 Try.underlying48
  go_enter Try.func19, Try.ntmps19
  go_wp2
  go_ret
  exact ⟨rfl, rfl⟩

set_option maxHeartbeats 400000 in
theorem clone19_empty (a : Addr) (c : Nat) (w : World) :
    Calls Try.prog 19 #[.slice (some a) 0 c] w fun e w' => e = .returned (.slice (some ⟨w.heap.size, 0, none⟩) 0 0) ∧ Below w.heap.size w w' := by
  have hnil := fun wx => Lib.run_eql_slice_nil (P := Try.prog) (w := wx) 48 22 (some a) 0 c 0 0 Try.underlying48
  obtain ⟨i0, hi, hz0, hz1, hz2⟩ := info_parts Try.info22
  go_enter Try.func19, Try.ntmps19
  go_wp2_with (at_make; refine wpList_make_full _ rfl _ _ 48 rfl w.heap.size 22 i0 (.slice none 0 0) 1 Try.underlying48 hi hz0 hz1 .i64 .i64 _ _ 0 rfl rfl rfl rfl (by rw [hz2]; omega) (by unfold maxLen; omega) (Nat.le_refl _) ?_; intro w1 hown hgrow)
  have hb1 : Below w.heap.size w w1 := (Below.refl _ _).grown hgrow (Nat.le_refl _) (by intro k hk; cases hk)
  clear hown hgrow hnil
  refine wp_loop_rounds 1 ?_
  rw [rounds_succ]
  go_wp2
  go_ret
  exact ⟨rfl, hb1⟩

/-- The first k slots of a row at block B are filled with slices of edges that lie further on. -/
def Filled (w : World) (B k : Nat) (g : List (List Ed)) (xs : List Value) : Prop :=
  ∀ i, i < k → ∃ x, xs[i]? = some x ∧ IsEdges w x (g.getD i []) ∧ From (B + 1) x

theorem Filled.next {w : World} {B k : Nat} {g : List (List Ed)} {xs : List Value} (h : Filled w B k g xs) (hk : k < xs.length) {v : Value} (hv : IsEdges w v (g.getD k [])) (hf : From (B + 1) v) :
    Filled (w.setCell ⟨B, k, none⟩ v) B (k + 1) g (xs.set k v) := by
  intro i hi
  by_cases e : i = k
  · subst e
    exact ⟨v, by rw [List.getElem?_set_self hk], hv.setCell hf _ _, hf⟩
  · obtain ⟨x, h1, h2, h3⟩ := h i (by omega)
    exact ⟨x, by rw [List.getElem?_set_ne (by omega)]; exact h1, h2.setCell h3 _ _, h3⟩

theorem Filled.later {w w' : World} {B k : Nat} {g : List (List Ed)} {xs : List Value} (h : Filled w B k g xs) (hb : Below w.heap.size w w') : Filled w' B k g xs := by
  intro i hi
  obtain ⟨x, h1, h2, h3⟩ := h i hi
  exact ⟨x, h1, h2.later hb, h3⟩

theorem Filled.out {w : World} {B0 B n : Nat} {T : TypeId} {g : List (List Ed)} {xs : List Value} (h : Filled w B n g xs) (hl : g.length = n) (hown : w.ownsRow B0 T 1 (.slice (some ⟨B, 0, none⟩) n n) n xs) :
    IsOut w (.slice (some ⟨B, 0, none⟩) n n) g := by
  subst hl
  refine ⟨_, _, rfl, (fun h => (by cases h)), .inr ⟨B, 0, rfl, (hown.lt B rfl).2, fun i hi => ?_⟩⟩
  obtain ⟨x, h1, h2, _⟩ := h i hi
  exact ⟨x, by rw [Nat.zero_add, hown.cellAt i (by omega), h1], h2⟩

set_option maxHeartbeats 800000 in
theorem clone19_some (b off n c : Nat) (g : List (List Ed)) (w : World) (hn : n ≤ 1048576) (hb : b < w.heap.size) (hl : n = g.length) (hlen : ∀ i, i < n → (g.getD i []).length ≤ 1048576)
    (hc : ∀ i, i < n → ∃ x, w.cell? ⟨b, off + i, none⟩ = some x ∧ IsEdges w x (g.getD i [])) :
    Calls Try.prog 19 #[.slice (some ⟨b, off, none⟩) n c] w fun e w' => e = .returned (.slice (some ⟨w.heap.size, 0, none⟩) n n) ∧
      IsOut w' (.slice (some ⟨w.heap.size, 0, none⟩) n n) g ∧ Below w.heap.size w w' := by
  have hnil := fun wx => Lib.run_eql_slice_nil (P := Try.prog) (w := wx) 48 22 (some ⟨b, off, none⟩) n c 0 0 Try.underlying48
  obtain ⟨i0, hi, hz0, hz1, hz2⟩ := info_parts Try.info22
  have HC := show Hid _ from hc
  have HL := show Hid _ from hl
  have HN := show Hid _ from hlen
  clear hc hl hlen
  go_enter Try.func19, Try.ntmps19
  go_wp2_with (at_make; refine wpList_make_full _ rfl _ _ 48 rfl w.heap.size 22 i0 (.slice none 0 0) 1 Try.underlying48 hi hz0 hz1 .i64 .i64 _ _ n rfl rfl rfl rfl (by rw [hz2]; omega) (by unfold maxLen; omega) (Nat.le_refl _) ?_; intro w1 hown hgrow)
  have hb1 : Below w.heap.size w w1 := (Below.refl _ _).grown hgrow (Nat.le_refl _) (by intro k hk; cases hk)
  clear hgrow hnil
  go_loopw [4] (fun i wr => ∃ (k : Nat) (xs : List Value), k ≤ n ∧ i = .int .i64 k ∧ wr.ownsRow w.heap.size 22 1 (.slice (some ⟨w.heap.size, 0, none⟩) n n) n xs ∧ Filled wr w.heap.size k g xs ∧ Below w.heap.size w wr)
    (fun i _ => n - (intOf i).toNat)
  case atStart => exact ⟨0, _, Nat.zero_le _, rfl, hown, (fun i hi => absurd hi (Nat.not_lt_zero _)), hb1⟩
  case round =>
    obtain ⟨k, xs, hk, rfl, hown, hfil, hbr⟩ := hrel
    by_cases hlt : k < n
    · obtain ⟨x, c0, hx⟩ := HC.out k hlt
      have c1 : wr.cell? ⟨b, off + k, none⟩ = some x := (hbr.cell (by exact hb)).trans c0
      have hx1 := hx.later hbr
      go_wp2_with fail
      refine (clone7 x _ _ (HN.out k hlt) hx1).mono ?_
      rintro e w2 ⟨v', rfl, hv, hf, hb2⟩
      have hown2 := hown.kept (grown_of_below hb2) (.inr (by simp [Value.ownBlock]))
      have hfil2 := hfil.later hb2
      have hlt2 : w.heap.size + 1 ≤ wr.heap.size := (hown.lt _ rfl).2
      have hf2 : From (w.heap.size + 1) v' := fun a n c h => Nat.le_trans hlt2 (hf a n c h)
      have hxl : k < xs.length := by rw [hown.1]; omega
      have hfil3 := hfil2.next hxl hv hf2
      have hown3 := (hown2.stored k v').1
      have hfz := hown2.frozenAt k
      obtain ⟨u, hu⟩ : ∃ u, w2.cell? ⟨w.heap.size, k, none⟩ = some u := by
        rw [hown2.cellAt k (by omega)]
        exact ⟨_, List.getElem?_eq_getElem hxl⟩
      have hb3 : Below w.heap.size w (w2.setCell ⟨w.heap.size, k, none⟩ v') := (hbr.trans (hb2.mono hbr.size)).setCell (by simp) _
      obtain ⟨av, cv, rfl, _⟩ := hv.shape
      have H3 := show Hid _ from hfil3
      have O3 := show Hid _ from hown3
      clear hfil3 hown3 hv hf hf2 hfil2
      go_wp2
      go_roundw
      case rel => exact ⟨k + 1, _, by omega, by go_num, O3.out, H3.out, hb3⟩
      case measure => simp [intOf]; omega
    · have hkn : k = n := by omega
      subst hkn
      go_wp2
      go_ret
      exact ⟨rfl, hfil.out HL.out.symm hown, hbr⟩

theorem clone19 (v : Value) (g : List (List Ed)) (w : World) (hn : g.length ≤ 1048576) (hlen : ∀ i, i < g.length → (g.getD i []).length ≤ 1048576) (h : IsOut w v g) :
    Calls Try.prog 19 #[v] w fun e w' => ∃ v', e = .returned v' ∧ IsOut w' v' g ∧ Below w.heap.size w w' := by
  obtain ⟨a, c, rfl, hc0, h3⟩ := h
  cases a with
  | none =>
    obtain ⟨h1, rfl⟩ := hc0 rfl
    rw [h1]
    refine (clone19_nil w).mono ?_
    rintro e w' ⟨rfl, rfl⟩
    exact ⟨_, rfl, ⟨none, 0, by rw [h1], fun _ => ⟨h1, rfl⟩, .inl h1⟩, Below.refl _ _⟩
  | some a =>
    by_cases h0 : g.length = 0
    · rw [h0]
      refine (clone19_empty a c w).mono ?_
      rintro e w' ⟨rfl, hb⟩
      exact ⟨_, rfl, ⟨_, _, by rw [h0], (fun h => (by cases h)), .inl h0⟩, hb⟩
    · rcases h3 with h3 | ⟨b, off, h3, h4, h5⟩
      · exact absurd h3 h0
      · obtain rfl : a = ⟨b, off, none⟩ := by simpa using h3
        refine (clone19_some b off g.length c g w hn h4 rfl hlen h5).mono ?_
        rintro e w' ⟨rfl, hout, hb⟩
        exact ⟨_, rfl, hout, hb⟩
end Go.Proofs.Qxb6603412a
