/-
  MakeEdge, EdgesIn: a slice of the laws' edges turned into a slice of the package's edges.
-/
import Derived.Test.Qxb6603412aCyC
import Derived.Deep.RegionHeld3
import Derived.Deep.DrawnRows
namespace Go.Proofs.Qxb6603412a
open Go.RowKit
set_option linter.unusedVariables false
attribute [local go_sem ↓] Go.wp_at_zero Go.wp_at_succ

theorem Try.info40 : (Try.prog.info? 40).map (fun i => (i.zero, i.size, i.bytes)) = some (some (.agg #[.int .i64 0, .int .i64 0, .int .i64 0]), 3, 24) := by kernel_rfl
theorem Try.info32 : (Try.prog.info? 32).map (fun i => (i.zero, i.size, i.bytes)) = some (some (.slice none 0 0), 1, 24) := by kernel_rfl

theorem mkEdge26 (f t p : Int) (w : World) :
    Calls Try.prog 26 #[.int .i64 f, .int .i64 t, .int .i64 p] w fun e w' => e = .returned (.agg #[.int .i64 f, .int .i64 t, .int .i64 p]) ∧ w' = w.alloc (.cells #[.int .i64 f, .int .i64 t, .int .i64 p] 40) := by
  go_enter Try.func26, Try.ntmps26
  go_wp2
  exact bodyPost_ret (v := .agg #[.int .i64 f, .int .i64 t, .int .i64 p]) (by simp [results, Try.results26, go_sem]) rfl ⟨rfl, rfl⟩

theorem mkEdge26' (f t p : Int) (w : World) :
    Calls Try.prog 26 #[.int .i64 f, .int .i64 t, .int .i64 p] w fun e w' => e = .returned (.agg #[.int .i64 f, .int .i64 t, .int .i64 p]) ∧ Below w.heap.size w w' := by
  refine (mkEdge26 f t p w).mono ?_
  rintro e w' ⟨rfl, rfl⟩
  exact ⟨rfl, (Below.refl _ _).alloc (Nat.le_refl _) _⟩

theorem set3_other (w : World) (g o : Nat) (e : Ed) (b j : Nat) (h : b ≠ g) : (set3 w g o e).cell? ⟨b, j, none⟩ = w.cell? ⟨b, j, none⟩ := by
  unfold set3
  rw [World.cell?_setCell_other _ _ _ _ (by intro e; cases e; exact h rfl), World.cell?_setCell_other _ _ _ _ (by intro e; cases e; exact h rfl), World.cell?_setCell_other _ _ _ _ (by intro e; cases e; exact h rfl)]

theorem in12_nil (w : World) :
    Calls Try.prog 12 #[.slice none 0 0] w fun e w' => e = .returned (.slice none 0 0) ∧ w' = w := by
  have hnil := fun wx => Lib.run_eql_slice_nil (P := Try.prog) (w := wx) 22 42 none 0 0 0 0 Try.underlying22
  go_enter Try.func12, Try.ntmps12
  go_wp2
  go_ret
  exact ⟨rfl, rfl⟩

set_option maxHeartbeats 400000 in
theorem in12_empty (a : Addr) (c : Nat) (w : World) :
    Calls Try.prog 12 #[.slice (some a) 0 c] w fun e w' => e = .returned (.slice (some ⟨w.heap.size, 0, none⟩) 0 0) ∧ Below w.heap.size w w' := by
  have hnil := fun wx => Lib.run_eql_slice_nil (P := Try.prog) (w := wx) 22 42 (some a) 0 c 0 0 Try.underlying22
  obtain ⟨i0, hi, hz0, hz1, hz2⟩ := info_parts Try.info40
  go_enter Try.func12, Try.ntmps12
  go_wp2_with (at_make; refine wpList_make_full _ rfl _ _ 32 rfl w.heap.size 40 i0 (.agg #[.int .i64 0, .int .i64 0, .int .i64 0]) 3 Try.underlying32 hi hz0 hz1 .i64 .i64 _ _ 0 rfl rfl rfl rfl (by rw [hz2]; omega) (by unfold maxLen; omega) (Nat.le_refl _) ?_; intro w1 hown hgrow)
  have hb1 : Below w.heap.size w w1 := (Below.refl _ _).grown hgrow (Nat.le_refl _) (by intro k hk; cases hk)
  clear hown hgrow hnil
  refine wp_loop_rounds 1 ?_
  rw [rounds_succ]
  go_wp2
  go_ret
  exact ⟨rfl, hb1⟩

set_option maxHeartbeats 2000000 in
theorem in12_some (b off n c : Nat) (es : List Ed) (w : World) (hn : n ≤ 1048576) (hb : b < w.heap.size) (hl : n = es.length)
    (hc : ∀ i, i < n → EdAt w b (off + i * 3) (es.getD i (0, 0, 0))) :
    Calls Try.prog 12 #[.slice (some ⟨b, off, none⟩) n c] w fun e w' => e = .returned (.slice (some ⟨w.heap.size, 0, none⟩) n n) ∧
      w'.ownsRow w.heap.size 40 3 (.slice (some ⟨w.heap.size, 0, none⟩) n n) n (edCells es) ∧ Below w.heap.size w w' := by
  have hnil := fun wx => Lib.run_eql_slice_nil (P := Try.prog) (w := wx) 22 42 (some ⟨b, off, none⟩) n c 0 0 Try.underlying22
  obtain ⟨i0, hi, hz0, hz1, hz2⟩ := info_parts Try.info40
  have HC := show Hid _ from hc
  have HL := show Hid _ from hl
  clear hc hl
  go_enter Try.func12, Try.ntmps12
  go_wp2_with (at_make; refine wpList_make_full _ rfl _ _ 32 rfl w.heap.size 40 i0 (.agg #[.int .i64 0, .int .i64 0, .int .i64 0]) 3 Try.underlying32 hi hz0 hz1 .i64 .i64 _ _ n rfl rfl rfl rfl (by rw [hz2]; omega) (by unfold maxLen; omega) (Nat.le_refl _) ?_; intro w1 hown hgrow)
  have hb1 : Below w.heap.size w w1 := (Below.refl _ _).grown hgrow (Nat.le_refl _) (by intro k hk; cases hk)
  have hown1 : w1.ownsRow w.heap.size 40 3 (.slice (some ⟨w.heap.size, 0, none⟩) n n) n (edCells (es.take 0) ++ List.replicate ((n - 0) * 3) (Value.int .i64 0)) := by
    have h := hown
    rw [made3] at h
    simpa [edCells] using h
  clear hown hgrow hnil
  go_loopw [4] (fun i wr => ∃ k : Nat, k ≤ n ∧ i = .int .i64 k ∧ wr.ownsRow w.heap.size 40 3 (.slice (some ⟨w.heap.size, 0, none⟩) n n) n (edCells (es.take k) ++ List.replicate ((n - k) * 3) (Value.int .i64 0)) ∧ Below w.heap.size w wr)
    (fun i _ => n - (intOf i).toNat)
  case atStart => exact ⟨0, Nat.zero_le _, rfl, hown1, hb1⟩
  case round =>
    obtain ⟨k, hk, rfl, hown, hbr⟩ := hrel
    clear hown1 hb1
    by_cases hlt : k < n
    · obtain ⟨c0, c1, c2⟩ : EdAt wr b (off + k * 3) (es.getD k (0, 0, 0)) := (HC.out k hlt).later hbr hb
      have hlen : (edCells (es.take k) ++ List.replicate ((n - k) * 3) (Value.int .i64 0)).length = n * 3 := hown.1
      have hat : ∀ j, j < n * 3 → ∃ u, wr.cell? ⟨w.heap.size, j, none⟩ = some u := fun j hj => by
        rw [hown.cellAt j hj]
        exact ⟨_, List.getElem?_eq_getElem (by omega)⟩
      obtain ⟨u0, hu0⟩ := hat (k * 3) (by omega)
      obtain ⟨u1, hu1⟩ := hat (k * 3 + 1) (by omega)
      obtain ⟨u2, hu2⟩ := hat (k * 3 + 2) (by omega)
      have f0 := hown.frozenAt (k * 3)
      have f1 := hown.frozenAt (k * 3 + 1)
      have f2 := hown.frozenAt (k * 3 + 2)
      have hsz : w.heap.size < wr.heap.size := (hown.lt _ rfl).2
      have l0 : (0 : Int) ≤ (k : Int) := by omega
      have l1 : (k : Int) < (n : Int) := by omega
      generalize he : es.getD k (0, 0, 0) = e at c0 c1 c2
      have HE := show Hid _ from he
      have hbb : b < wr.heap.size := Nat.lt_of_lt_of_le hb hbr.size
      have hbn : b ≠ w.heap.size := Nat.ne_of_lt hb
      clear hat hlen he
      go_wp2
      go_region_held3 (fun w' => w'.cell? ⟨b, off + k * 3, none⟩ = some (.int .i64 e.1) ∧ w'.cell? ⟨b, off + k * 3 + 1, none⟩ = some (.int .i64 e.2.1) ∧ w'.cell? ⟨b, off + k * 3 + 2, none⟩ = some (.int .i64 e.2.2)) (first | exact ⟨(hb2.cell (p := ⟨b, off + k * 3, none⟩) hbb).trans c0, (hb2.cell (p := ⟨b, off + k * 3 + 1, none⟩) hbb).trans c1, (hb2.cell (p := ⟨b, off + k * 3 + 2, none⟩) hbb).trans c2⟩ | exact ⟨(set3_other w2 _ _ e b _ hbn).trans ((hb2.cell (p := ⟨b, off + k * 3, none⟩) hbb).trans c0), (set3_other w2 _ _ e b _ hbn).trans ((hb2.cell (p := ⟨b, off + k * 3 + 1, none⟩) hbb).trans c1), (set3_other w2 _ _ e b _ hbn).trans ((hb2.cell (p := ⟨b, off + k * 3 + 2, none⟩) hbb).trans c2)⟩ | go_keep)
        ((go_at_call 26; refine (mkEdge26' _ _ _ _).mono ?_; rintro e' w2 ⟨rfl, hb2⟩; have v0 := (hb2.cell (p := ⟨w.heap.size, k * 3, none⟩) hsz).trans hu0; have v1 := (hb2.cell (p := ⟨w.heap.size, k * 3 + 1, none⟩) hsz).trans hu1; have v2 := (hb2.cell (p := ⟨w.heap.size, k * 3 + 2, none⟩) hsz).trans hu2; have g0 := (hb2.frozen (p := ⟨w.heap.size, k * 3, none⟩) hsz).trans f0; have g1 := (hb2.frozen (p := ⟨w.heap.size, k * 3 + 1, none⟩) hsz).trans f1; have g2 := (hb2.frozen (p := ⟨w.heap.size, k * 3 + 2, none⟩) hsz).trans f2))
      have hb2' : Below wr.heap.size wr w2 := ⟨hb2.os, hb2.tape, hb2.output, hb2.size, hb2.block⟩
      have hown2 := hown.kept (grown_of_below hb2') (.inr (by simp [Value.ownBlock]))
      have hst := stored3 hown2 (k * 3) e
      rw [← HE.out, set3_cells es n k hlt (by rw [HL.out]; exact Nat.le_refl _), HE.out] at hst
      have HST := show Hid _ from hst
      have hb3 := set3_below (hbr.trans (hb2'.mono hbr.size)) (Nat.le_refl _) (k * 3) e
      clear hst hb2 hb2' hown2 hown v0 v1 v2 g0 g1 g2
      go_wp2
      go_roundw
      case rel => exact ⟨k + 1, by omega, by go_num, HST.out, hb3⟩
      case measure => simp [intOf]; omega
    · have hkn : k = n := by omega
      subst hkn
      go_wp2
      go_ret
      refine ⟨rfl, ?_, hbr⟩
      have h := hown
      rw [Nat.sub_self, Nat.zero_mul, List.replicate_zero, List.append_nil, List.take_of_length_le (by rw [← HL.out]; exact Nat.le_refl _)] at h
      exact h

theorem in12 (v : Value) (es : List Ed) (w : World) (hn : es.length ≤ 1048576) (h : IsEdges w v es) :
    Calls Try.prog 12 #[v] w fun e w' => ∃ v', e = .returned v' ∧ IsEdges w' v' es ∧ From w.heap.size v' ∧ Below w.heap.size w w' := by
  obtain ⟨hw, a, c, rfl, hc0, h3⟩ := h
  cases a with
  | none =>
    obtain ⟨h1, rfl⟩ := hc0 rfl
    rw [h1]
    refine (in12_nil w).mono ?_
    rintro e w' ⟨rfl, rfl⟩
    exact ⟨_, rfl, ⟨hw, none, 0, by rw [h1], fun _ => ⟨h1, rfl⟩, .inl h1⟩, (fun a n c h => (by cases h)), Below.refl _ _⟩
  | some a =>
    by_cases h0 : es.length = 0
    · rw [h0]
      refine (in12_empty a c w).mono ?_
      rintro e w' ⟨rfl, hb⟩
      exact ⟨_, rfl, ⟨hw, _, _, by rw [h0], (fun h => (by cases h)), .inl h0⟩, (fun a n c h => (by cases h; exact Nat.le_refl _)), hb⟩
    · rcases h3 with h3 | ⟨b, off, h3, h4, h5⟩
      · exact absurd h3 h0
      · obtain rfl : a = ⟨b, off, none⟩ := by simpa using h3
        refine (in12_some b off es.length c es w hn h4 rfl h5).mono ?_
        rintro e w' ⟨rfl, hown, hb⟩
        exact ⟨_, rfl, edges_of_row hw hown, (fun a n c h => (by cases h; exact Nat.le_refl _)), hb⟩

/-! ### The graph -/
theorem mkGraph29 (v x : Value) (w : World) (h1 : ∃ a n c, v = .slice a n c) (h2 : ∃ a n c, x = .slice a n c) :
    Calls Try.prog 29 #[v, x] w fun e w' => e = .returned (.pointer (some ⟨w.heap.size, 0, none⟩)) ∧ w' = w.alloc (.cells #[v, x] 70) := by
  obtain ⟨a, n, c, rfl⟩ := h1
  obtain ⟨a', n', c', rfl⟩ := h2
  go_enter Try.func29, Try.ntmps29
  go_wp2
  go_ret
  exact ⟨rfl, rfl⟩

/-- A graph in memory: the second field leads to its edges. -/
def IsGraph (w : World) (p : Value) (g : List (List Ed)) : Prop :=
  ∃ b x, p = .pointer (some ⟨b, 0, none⟩) ∧ b < w.heap.size ∧ w.cell? ⟨b, 1, none⟩ = some x ∧ IsOut w x g

theorem IsGraph.later {w w' : World} {p : Value} {g : List (List Ed)} (h : IsGraph w p g) (hb : Below w.heap.size w w') : IsGraph w' p g := by
  obtain ⟨b, x, h1, h2, h3, h4⟩ := h
  exact ⟨b, x, h1, Nat.lt_of_lt_of_le h2 hb.size, (hb.cell (p := ⟨b, 1, none⟩) h2).trans h3, h4.later hb⟩
end Go.Proofs.Qxb6603412a
