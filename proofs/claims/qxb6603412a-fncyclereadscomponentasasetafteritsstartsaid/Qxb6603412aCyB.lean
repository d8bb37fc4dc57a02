/-
  The clone of a slice of edges; slices of slices of edges and their clone.
-/
import Derived.Test.Qxb6603412aCyA
namespace Go.Proofs.Qxb6603412a
open Go.RowKit
set_option linter.unusedVariables false

theorem Try.info42 : (Try.prog.info? 42).map (fun i => (i.zero, i.size, i.bytes)) = some (some (.agg #[.int .i64 0, .int .i64 0, .int .i64 0]), 3, 24) := by kernel_rfl
theorem Try.info22 : (Try.prog.info? 22).map (fun i => (i.zero, i.size, i.bytes)) = some (some (.slice none 0 0), 1, 24) := by kernel_rfl

theorem made3 (n : Nat) : (madeCells (Value.agg #[Value.int .i64 0, Value.int .i64 0, Value.int .i64 0]).cells (n * 3)).toList = List.replicate (n * 3) (Value.int .i64 0) := by
  apply List.ext_getElem?
  intro j
  by_cases hj : j < n * 3
  · have h3 : j % 3 = 0 ∨ j % 3 = 1 ∨ j % 3 = 2 := by omega
    rcases h3 with h | h | h <;> simp [madeCells, hj, Value.cells, h]
  · simp [madeCells, hj]

theorem clone7_nil (w : World) :
    Calls Try.prog 7 #[.slice none 0 0] w fun e w' => e = .returned (.slice none 0 0) ∧ w' = w := by
  have hnil := fun wx => Lib.run_eql_slice_nil (P := Try.prog) (w := wx) 22 42 none 0 0 0 0 Try.underlying22
  go_enter Try.func7, Try.ntmps7
  go_wp2
  go_ret
  exact ⟨rfl, rfl⟩

set_option maxHeartbeats 400000 in
theorem clone7_empty (a : Addr) (c : Nat) (w : World) :
    Calls Try.prog 7 #[.slice (some a) 0 c] w fun e w' => e = .returned (.slice (some ⟨w.heap.size, 0, none⟩) 0 0) ∧ Below w.heap.size w w' := by
  have hnil := fun wx => Lib.run_eql_slice_nil (P := Try.prog) (w := wx) 22 42 (some a) 0 c 0 0 Try.underlying22
  obtain ⟨i0, hi, hz0, hz1, hz2⟩ := info_parts Try.info42
  go_enter Try.func7, Try.ntmps7
  go_wp2_with (at_make; refine wpList_make_full _ rfl _ _ 22 rfl w.heap.size 42 i0 (.agg #[.int .i64 0, .int .i64 0, .int .i64 0]) 3 Try.underlying22 hi hz0 hz1 .i64 .i64 _ _ 0 rfl rfl rfl rfl (by rw [hz2]; omega) (by unfold maxLen; omega) (Nat.le_refl _) ?_; intro w1 hown hgrow)
  have hb1 : Below w.heap.size w w1 := (Below.refl _ _).grown hgrow (Nat.le_refl _) (by intro k hk; cases hk)
  clear hown hgrow hnil
  refine wp_loop_rounds 1 ?_
  rw [rounds_succ]
  go_wp2
  go_ret
  exact ⟨rfl, hb1⟩

set_option maxHeartbeats 400000 in
theorem clone7_some (b off n c : Nat) (es : List Ed) (w : World) (hn : n ≤ 1048576) (hb : b < w.heap.size) (hl : n = es.length)
    (hc : ∀ i, i < n → EdAt w b (off + i * 3) (es.getD i (0, 0, 0))) :
    Calls Try.prog 7 #[.slice (some ⟨b, off, none⟩) n c] w fun e w' => e = .returned (.slice (some ⟨w.heap.size, 0, none⟩) n n) ∧
      w'.ownsRow w.heap.size 42 3 (.slice (some ⟨w.heap.size, 0, none⟩) n n) n (edCells es) ∧ Below w.heap.size w w' := by
  have hnil := fun wx => Lib.run_eql_slice_nil (P := Try.prog) (w := wx) 22 42 (some ⟨b, off, none⟩) n c 0 0 Try.underlying22
  obtain ⟨i0, hi, hz0, hz1, hz2⟩ := info_parts Try.info42
  have HC := show Hid _ from hc
  have HL := show Hid _ from hl
  clear hc hl
  go_enter Try.func7, Try.ntmps7
  go_wp2_with (at_make; refine wpList_make_full _ rfl _ _ 22 rfl w.heap.size 42 i0 (.agg #[.int .i64 0, .int .i64 0, .int .i64 0]) 3 Try.underlying22 hi hz0 hz1 .i64 .i64 _ _ n rfl rfl rfl rfl (by rw [hz2]; omega) (by unfold maxLen; omega) (Nat.le_refl _) ?_; intro w1 hown hgrow)
  have hb1 : Below w.heap.size w w1 := (Below.refl _ _).grown hgrow (Nat.le_refl _) (by intro k hk; cases hk)
  have hown1 : w1.ownsRow w.heap.size 42 3 (.slice (some ⟨w.heap.size, 0, none⟩) n n) n (edCells (es.take 0) ++ List.replicate ((n - 0) * 3) (Value.int .i64 0)) := by
    have h := hown
    rw [made3] at h
    simpa [edCells] using h
  clear hown hgrow hnil
  go_loopw [4] (fun i wr => ∃ k : Nat, k ≤ n ∧ i = .int .i64 k ∧ wr.ownsRow w.heap.size 42 3 (.slice (some ⟨w.heap.size, 0, none⟩) n n) n (edCells (es.take k) ++ List.replicate ((n - k) * 3) (Value.int .i64 0)) ∧ Below w.heap.size w wr)
    (fun i _ => n - (intOf i).toNat)
  case atStart => exact ⟨0, Nat.zero_le _, rfl, hown1, hb1⟩
  case round =>
    obtain ⟨k, hk, rfl, hown, hbr⟩ := hrel
    clear hown1 hb1
    by_cases hlt : k < n
    · obtain ⟨c0, c1, c2⟩ : EdAt wr b (off + k * 3) (es.getD k (0, 0, 0)) := (HC.out k hlt).later hbr hb
      have hlen : (edCells (es.take k) ++ List.replicate ((n - k) * 3) (Value.int .i64 0)).length = n * 3 := hown.1
      have hat : ∀ j, j < n * 3 → ∃ u, wr.cell? ⟨w.heap.size, j, none⟩ = some u := fun j hj => by
        rw [hown.cellAt j hj]
        exact ⟨_, List.getElem?_eq_getElem (by omega)⟩
      obtain ⟨u0, hu0⟩ := hat (k * 3) (by omega)
      obtain ⟨u1, hu1⟩ := hat (k * 3 + 1) (by omega)
      obtain ⟨u2, hu2⟩ := hat (k * 3 + 2) (by omega)
      have f0 := hown.frozenAt (k * 3)
      have f1 := hown.frozenAt (k * 3 + 1)
      have f2 := hown.frozenAt (k * 3 + 2)
      have hst := stored3 hown (k * 3) (es.getD k (0, 0, 0))
      rw [set3_cells es n k hlt (by rw [HL.out]; exact Nat.le_refl _)] at hst
      have HST := show Hid _ from hst
      clear hst hat hlen
      generalize es.getD k (0, 0, 0) = e at c0 c1 c2 HST
      go_wp2
      go_roundw
      case rel => exact ⟨k + 1, by omega, by go_num, HST.out, set3_below hbr (Nat.le_refl _) _ _⟩
      case measure => simp [intOf]; omega
    · have hkn : k = n := by omega
      subst hkn
      go_wp2
      go_ret
      refine ⟨rfl, ?_, hbr⟩
      have h := hown
      rw [Nat.sub_self, Nat.zero_mul, List.replicate_zero, List.append_nil, List.take_of_length_le (by rw [← HL.out]; exact Nat.le_refl _)] at h
      exact h

/-- A slice whose array, if it has one, lies from block B on. -/
def From (B : Nat) (v : Value) : Prop := ∀ a n c, v = .slice (some a) n c → B ≤ a.block

theorem IsEdges.setCell {w : World} {v : Value} {es : List Ed} (h : IsEdges w v es) {g : Nat} (hf : From (g + 1) v) (k : Nat) (u : Value) : IsEdges (w.setCell ⟨g, k, none⟩ u) v es := by
  obtain ⟨h0, a, c, h1, h2, h3⟩ := h
  refine ⟨h0, a, c, h1, h2, ?_⟩
  rcases h3 with h3 | ⟨b, off, rfl, h4, h5⟩
  · exact .inl h3
  · have hb := hf _ _ _ h1
    have hne : b ≠ g := by simp at hb; omega
    refine .inr ⟨b, off, rfl, by simpa using h4, fun i hi => ?_⟩
    obtain ⟨c0, c1, c2⟩ := h5 i hi
    have ho : ∀ j, (w.setCell ⟨g, k, none⟩ u).cell? ⟨b, j, none⟩ = w.cell? ⟨b, j, none⟩ := fun j => World.cell?_setCell_other _ _ _ _ (by intro h; cases h; exact hne rfl)
    exact ⟨(ho _).trans c0, (ho _).trans c1, (ho _).trans c2⟩

theorem grown_of_below {w w' : World} (h : Below w.heap.size w w') : w.grownBy w' none := ⟨h.os, h.tape, h.output, h.size, fun k hk _ => h.block k hk⟩

theorem clone7 (v : Value) (es : List Ed) (w : World) (hn : es.length ≤ 1048576) (h : IsEdges w v es) :
    Calls Try.prog 7 #[v] w fun e w' => ∃ v', e = .returned v' ∧ IsEdges w' v' es ∧ From w.heap.size v' ∧ Below w.heap.size w w' := by
  obtain ⟨hw, a, c, rfl, hc0, h3⟩ := h
  cases a with
  | none =>
    obtain ⟨h1, rfl⟩ := hc0 rfl
    rw [h1]
    refine (clone7_nil w).mono ?_
    rintro e w' ⟨rfl, rfl⟩
    exact ⟨_, rfl, ⟨hw, none, 0, by rw [h1], fun _ => ⟨h1, rfl⟩, .inl h1⟩, (fun a n c h => (by cases h)), Below.refl _ _⟩
  | some a =>
    by_cases h0 : es.length = 0
    · rw [h0]
      refine (clone7_empty a c w).mono ?_
      rintro e w' ⟨rfl, hb⟩
      exact ⟨_, rfl, ⟨hw, _, _, by rw [h0], (fun h => (by cases h)), .inl h0⟩, (fun a n c h => (by cases h; exact Nat.le_refl _)), hb⟩
    · rcases h3 with h3 | ⟨b, off, h3, h4, h5⟩
      · exact absurd h3 h0
      · obtain rfl : a = ⟨b, off, none⟩ := by simpa using h3
        refine (clone7_some b off es.length c es w hn h4 rfl h5).mono ?_
        rintro e w' ⟨rfl, hown, hb⟩
        exact ⟨_, rfl, edges_of_row hw hown, (fun a n c h => (by cases h; exact Nat.le_refl _)), hb⟩

/-! ### Slices of slices of edges -/
def IsOut (w : World) (v : Value) (g : List (List Ed)) : Prop :=
  ∃ a c, v = .slice a g.length c ∧ (a = none → g.length = 0 ∧ c = 0) ∧
    (g.length = 0 ∨ ∃ b off, a = some ⟨b, off, none⟩ ∧ b < w.heap.size ∧ ∀ i, i < g.length → ∃ x, w.cell? ⟨b, off + i, none⟩ = some x ∧ IsEdges w x (g.getD i []))

theorem IsOut.later {w w' : World} {v : Value} {g : List (List Ed)} (h : IsOut w v g) (hb : Below w.heap.size w w') : IsOut w' v g := by
  obtain ⟨a, c, h1, h2, h3⟩ := h
  refine ⟨a, c, h1, h2, ?_⟩
  rcases h3 with h3 | ⟨b, off, h3, h4, h5⟩
  · exact .inl h3
  · refine .inr ⟨b, off, h3, Nat.lt_of_lt_of_le h4 hb.size, fun i hi => ?_⟩
    obtain ⟨x, h6, h7⟩ := h5 i hi
    exact ⟨x, (hb.cell (p := ⟨b, off + i, none⟩) h4).trans h6, h7.later hb⟩

theorem IsOut.pos {w : World} {v : Value} {g : List (List Ed)} (h : IsOut w v g) (h0 : 0 < g.length) :
    ∃ b off c, v = .slice (some ⟨b, off, none⟩) g.length c ∧ b < w.heap.size ∧ ∀ i, i < g.length → ∃ x, w.cell? ⟨b, off + i, none⟩ = some x ∧ IsEdges w x (g.getD i []) := by
  obtain ⟨a, c, h1, h2, h3⟩ := h
  rcases h3 with h3 | ⟨b, off, rfl, h4, h5⟩
  · omega
  · exact ⟨b, off, c, h1, h4, h5⟩

theorem IsOut.shape {w : World} {v : Value} {g : List (List Ed)} (h : IsOut w v g) : ∃ a c, v = .slice a g.length c ∧ (a = none → g.length = 0 ∧ c = 0) := by
  obtain ⟨a, c, h1, h2, _⟩ := h
  exact ⟨a, c, h1, h2⟩

end Go.Proofs.Qxb6603412a
