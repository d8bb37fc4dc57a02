/-
  Memory: slices of ints, of edges, of slices of edges; the clones of ints and of edges.
-/
import Derived.Test.Qxb6603412aRows
import Derived.WalkKit
import Derived.WalkSpells
import Derived.WalkLawsBesides
import Derived.Deep.QuietTactic
import Derived.BigQuiet
import Derived.Deep.LoopGhost
namespace Go.Proofs.Qxb6603412a
open Go.RowKit
set_option linter.unusedVariables false

/-! ### Ints -/
/-- The numbers of a slice of ints. -/
def IsInts (w : World) (v : Value) (zs : List Int) : Prop :=
  (∀ z ∈ zs, -9223372036854775808 ≤ z ∧ z ≤ 9223372036854775807) ∧
  ∃ a c, v = .slice a zs.length c ∧ (a = none → zs.length = 0 ∧ c = 0) ∧
    (zs.length = 0 ∨ ∃ b off, a = some ⟨b, off, none⟩ ∧ b < w.heap.size ∧ ∀ i, i < zs.length → w.cell? ⟨b, off + i, none⟩ = some (.int .i64 (zs.getD i 0)))

theorem IsInts.later {w w' : World} {v : Value} {zs : List Int} (h : IsInts w v zs) (hb : Below w.heap.size w w') : IsInts w' v zs := by
  obtain ⟨h0, a, c, h1, h2, h3⟩ := h
  refine ⟨h0, a, c, h1, h2, ?_⟩
  rcases h3 with h3 | ⟨b, off, h3, h4, h5⟩
  · exact .inl h3
  · exact .inr ⟨b, off, h3, Nat.lt_of_lt_of_le h4 hb.size, fun i hi => (hb.cell (p := ⟨b, off + i, none⟩) h4).trans (h5 i hi)⟩

theorem IsInts.pos {w : World} {v : Value} {zs : List Int} (h : IsInts w v zs) (h0 : 0 < zs.length) :
    ∃ b off c, v = .slice (some ⟨b, off, none⟩) zs.length c ∧ b < w.heap.size ∧ ∀ i, i < zs.length → w.cell? ⟨b, off + i, none⟩ = some (.int .i64 (zs.getD i 0)) := by
  obtain ⟨_, a, c, h1, h2, h3⟩ := h
  rcases h3 with h3 | ⟨b, off, rfl, h4, h5⟩
  · omega
  · exact ⟨b, off, c, h1, h4, h5⟩

theorem IsInts.shape {w : World} {v : Value} {zs : List Int} (h : IsInts w v zs) : ∃ a c, v = .slice a zs.length c ∧ (a = none → zs.length = 0 ∧ c = 0) := by
  obtain ⟨_, a, c, h1, h2, _⟩ := h
  exact ⟨a, c, h1, h2⟩

theorem ints_of_row {w : World} {g n : Nat} {T : TypeId} {zs : List Int} {B : Nat} (hw : ∀ z ∈ zs, -9223372036854775808 ≤ z ∧ z ≤ 9223372036854775807) (hl : zs.length = n)
    (hown : w.ownsRow B T 1 (.slice (some ⟨g, 0, none⟩) n n) n (zs.map (Value.int .i64))) : IsInts w (.slice (some ⟨g, 0, none⟩) n n) zs := by
  subst hl
  refine ⟨hw, _, _, rfl, (fun h => (by cases h)), .inr ⟨g, 0, rfl, (hown.lt g rfl).2, fun i hi => ?_⟩⟩
  rw [Nat.zero_add, hown.cellAt i (by omega), List.getElem?_map, List.getElem?_eq_getElem hi]
  simp [List.getD_eq_getElem?_getD, List.getElem?_eq_getElem hi]

theorem Try.info3 : (Try.prog.info? 3).map (fun i => (i.zero, i.size, i.bytes)) = some (some (.int .i64 0), 1, 8) := by kernel_rfl

theorem clone18_nil (w : World) :
    Calls Try.prog 18 #[.slice none 0 0] w fun e w' => e = .returned (.slice none 0 0) ∧ w' = w := by
  have hnil := fun wx => Lib.run_eql_slice_nil (P := Try.prog) (w := wx) 28 3 none 0 0 0 0 Try.underlying28
  go_enter Try.func18, Try.ntmps18
  go_wp2
  go_ret
  exact ⟨rfl, rfl⟩

theorem take_set_next (zs : List Int) (n k : Nat) (hk : k < n) (hl : n ≤ zs.length) :
    ((zs.take k).map (Value.int .i64) ++ List.replicate (n - k) (Value.int .i64 0)).set k (.int .i64 (zs.getD k 0)) = (zs.take (k + 1)).map (Value.int .i64) ++ List.replicate (n - (k + 1)) (Value.int .i64 0) := by
  have h1 : ((zs.take k).map (Value.int .i64)).length = k := by simp; omega
  rw [List.set_append_right _ _ (by omega), h1, Nat.sub_self, show n - k = (n - (k + 1)) + 1 from by omega, List.replicate_succ, List.set_cons_zero]
  have h2 : zs.take (k + 1) = zs.take k ++ [zs.getD k 0] := by
    rw [List.take_succ_eq_append_getElem (by omega)]
    simp [List.getD_eq_getElem?_getD, List.getElem?_eq_getElem (show k < zs.length by omega)]
  rw [h2, List.map_append, List.append_assoc]
  rfl

set_option maxHeartbeats 400000 in
theorem clone18_some (b off n c : Nat) (zs : List Int) (w : World) (hn : n ≤ 1048576) (hb : b < w.heap.size) (hl : n = zs.length)
    (hc : ∀ i, i < n → w.cell? ⟨b, off + i, none⟩ = some (.int .i64 (zs.getD i 0))) :
    Calls Try.prog 18 #[.slice (some ⟨b, off, none⟩) n c] w fun e w' => e = .returned (.slice (some ⟨w.heap.size, 0, none⟩) n n) ∧
      w'.ownsRow w.heap.size 3 1 (.slice (some ⟨w.heap.size, 0, none⟩) n n) n (zs.map (Value.int .i64)) ∧ Below w.heap.size w w' := by
  have hnil := fun wx => Lib.run_eql_slice_nil (P := Try.prog) (w := wx) 28 3 (some ⟨b, off, none⟩) n c 0 0 Try.underlying28
  obtain ⟨i0, hi, hz0, hz1, hz2⟩ := info_parts Try.info3
  have HC := show Hid _ from hc
  have HL := show Hid _ from hl
  clear hc hl
  go_enter Try.func18, Try.ntmps18
  go_wp2_with (at_make; refine wpList_make_full _ rfl _ _ 28 rfl w.heap.size 3 i0 (.int .i64 0) 1 Try.underlying28 hi hz0 hz1 .i64 .i64 _ _ n rfl rfl rfl rfl (by rw [hz2]; omega) (by unfold maxLen; omega) (Nat.le_refl _) ?_; intro w1 hown hgrow)
  have hb1 : Below w.heap.size w w1 := (Below.refl _ _).grown hgrow (Nat.le_refl _) (by intro k hk; cases hk)
  have hown1 : w1.ownsRow w.heap.size 3 1 (.slice (some ⟨w.heap.size, 0, none⟩) n n) n ((zs.take 0).map (Value.int .i64) ++ List.replicate (n - 0) (Value.int .i64 0)) := by
    have h := hown
    rw [Nat.mul_one, show (Value.int IntKind.i64 0).cells = #[Value.int IntKind.i64 0] from rfl, toList_madeCells_one] at h
    simpa using h
  clear hown hgrow hnil
  go_loopw [4] (fun i wr => ∃ k : Nat, k ≤ n ∧ i = .int .i64 k ∧ wr.ownsRow w.heap.size 3 1 (.slice (some ⟨w.heap.size, 0, none⟩) n n) n ((zs.take k).map (Value.int .i64) ++ List.replicate (n - k) (Value.int .i64 0)) ∧ Below w.heap.size w wr)
    (fun i _ => n - (intOf i).toNat)
  case atStart => exact ⟨0, Nat.zero_le _, rfl, hown1, hb1⟩
  case round =>
    obtain ⟨k, hk, rfl, hown, hbr⟩ := hrel
    clear hown1 hb1
    by_cases hlt : k < n
    · have hcx : wr.cell? ⟨b, off + k, none⟩ = some (.int .i64 (zs.getD k 0)) := (hbr.cell (by exact hb)).trans (HC.out k hlt)
      have hfz := hown.frozenAt k
      obtain ⟨u, hu⟩ : ∃ u, wr.cell? ⟨w.heap.size, k, none⟩ = some u := by
        rw [hown.cellAt k (by omega)]
        have := HL.out
        exact ⟨_, List.getElem?_eq_getElem (by simp; omega)⟩
      have hst := (hown.stored k (.int .i64 (zs.getD k 0))).1
      rw [take_set_next zs n k hlt (by rw [HL.out]; exact Nat.le_refl _)] at hst
      go_wp2
      go_roundw
      case rel => exact ⟨k + 1, by omega, by go_num, by simpa using hst, hbr.setCell (by simp) _⟩
      case measure => simp [intOf]; omega
    · have hkn : k = n := by omega
      subst hkn
      go_wp2
      go_ret
      refine ⟨rfl, ?_, hbr⟩
      have h := hown
      rw [Nat.sub_self, List.replicate_zero, List.append_nil, List.take_of_length_le (by rw [← HL.out]; exact Nat.le_refl _)] at h
      exact h

set_option maxHeartbeats 400000 in
theorem clone18_empty (a : Addr) (c : Nat) (w : World) :
    Calls Try.prog 18 #[.slice (some a) 0 c] w fun e w' => e = .returned (.slice (some ⟨w.heap.size, 0, none⟩) 0 0) ∧ Below w.heap.size w w' := by
  have hnil := fun wx => Lib.run_eql_slice_nil (P := Try.prog) (w := wx) 28 3 (some a) 0 c 0 0 Try.underlying28
  obtain ⟨i0, hi, hz0, hz1, hz2⟩ := info_parts Try.info3
  go_enter Try.func18, Try.ntmps18
  go_wp2_with (at_make; refine wpList_make_full _ rfl _ _ 28 rfl w.heap.size 3 i0 (.int .i64 0) 1 Try.underlying28 hi hz0 hz1 .i64 .i64 _ _ 0 rfl rfl rfl rfl (by rw [hz2]; omega) (by unfold maxLen; omega) (Nat.le_refl _) ?_; intro w1 hown hgrow)
  have hb1 : Below w.heap.size w w1 := (Below.refl _ _).grown hgrow (Nat.le_refl _) (by intro k hk; cases hk)
  clear hown hgrow hnil
  refine wp_loop_rounds 1 ?_
  rw [rounds_succ]
  go_wp2
  go_ret
  exact ⟨rfl, hb1⟩

theorem clone18 (v : Value) (zs : List Int) (w : World) (hn : zs.length ≤ 1048576) (h : IsInts w v zs) :
    Calls Try.prog 18 #[v] w fun e w' => ∃ v', e = .returned v' ∧ IsInts w' v' zs ∧ Below w.heap.size w w' := by
  obtain ⟨hw, a, c, rfl, hc0, h3⟩ := h
  cases a with
  | none =>
    obtain ⟨h1, rfl⟩ := hc0 rfl
    rw [h1]
    refine (clone18_nil w).mono ?_
    rintro e w' ⟨rfl, rfl⟩
    exact ⟨_, rfl, ⟨hw, none, 0, by rw [h1], fun _ => ⟨h1, rfl⟩, .inl h1⟩, Below.refl _ _⟩
  | some a =>
    by_cases h0 : zs.length = 0
    · rw [h0]
      refine (clone18_empty a c w).mono ?_
      rintro e w' ⟨rfl, hb⟩
      exact ⟨_, rfl, ⟨hw, _, _, by rw [h0], (fun h => (by cases h)), .inl h0⟩, hb⟩
    · rcases h3 with h3 | ⟨b, off, h3, h4, h5⟩
      · exact absurd h3 h0
      · obtain rfl : a = ⟨b, off, none⟩ := by simpa using h3
        refine (clone18_some b off zs.length c zs w hn h4 rfl h5).mono ?_
        rintro e w' ⟨rfl, hown, hb⟩
        exact ⟨_, rfl, ints_of_row hw rfl hown, hb⟩

/-! ### Edges -/
abbrev Ed := Int × Int × Int
def edCells (es : List Ed) : List Value := es.flatMap fun e => [.int .i64 e.1, .int .i64 e.2.1, .int .i64 e.2.2]
def EdAt (w : World) (b o : Nat) (e : Ed) : Prop :=
  w.cell? ⟨b, o, none⟩ = some (.int .i64 e.1) ∧ w.cell? ⟨b, o + 1, none⟩ = some (.int .i64 e.2.1) ∧ w.cell? ⟨b, o + 2, none⟩ = some (.int .i64 e.2.2)
def EdWf (e : Ed) : Prop := (-9223372036854775808 ≤ e.1 ∧ e.1 ≤ 9223372036854775807) ∧ (-9223372036854775808 ≤ e.2.1 ∧ e.2.1 ≤ 9223372036854775807) ∧ (-9223372036854775808 ≤ e.2.2 ∧ e.2.2 ≤ 9223372036854775807)

/-- The edges of a slice of edges. -/
def IsEdges (w : World) (v : Value) (es : List Ed) : Prop :=
  (∀ e ∈ es, EdWf e) ∧
  ∃ a c, v = .slice a es.length c ∧ (a = none → es.length = 0 ∧ c = 0) ∧
    (es.length = 0 ∨ ∃ b off, a = some ⟨b, off, none⟩ ∧ b < w.heap.size ∧ ∀ i, i < es.length → EdAt w b (off + i * 3) (es.getD i (0, 0, 0)))

theorem EdAt.later {B : Nat} {w w' : World} {b o : Nat} {e : Ed} (h : EdAt w b o e) (hb : Below B w w') (hB : b < B) : EdAt w' b o e :=
  ⟨(hb.cell (p := ⟨b, o, none⟩) hB).trans h.1, (hb.cell (p := ⟨b, o + 1, none⟩) hB).trans h.2.1, (hb.cell (p := ⟨b, o + 2, none⟩) hB).trans h.2.2⟩

theorem IsEdges.later {w w' : World} {v : Value} {es : List Ed} (h : IsEdges w v es) (hb : Below w.heap.size w w') : IsEdges w' v es := by
  obtain ⟨h0, a, c, h1, h2, h3⟩ := h
  refine ⟨h0, a, c, h1, h2, ?_⟩
  rcases h3 with h3 | ⟨b, off, h3, h4, h5⟩
  · exact .inl h3
  · exact .inr ⟨b, off, h3, Nat.lt_of_lt_of_le h4 hb.size, fun i hi => (h5 i hi).later hb h4⟩

theorem IsEdges.pos {w : World} {v : Value} {es : List Ed} (h : IsEdges w v es) (h0 : 0 < es.length) :
    ∃ b off c, v = .slice (some ⟨b, off, none⟩) es.length c ∧ b < w.heap.size ∧ ∀ i, i < es.length → EdAt w b (off + i * 3) (es.getD i (0, 0, 0)) := by
  obtain ⟨_, a, c, h1, h2, h3⟩ := h
  rcases h3 with h3 | ⟨b, off, rfl, h4, h5⟩
  · omega
  · exact ⟨b, off, c, h1, h4, h5⟩

theorem IsEdges.shape {w : World} {v : Value} {es : List Ed} (h : IsEdges w v es) : ∃ a c, v = .slice a es.length c ∧ (a = none → es.length = 0 ∧ c = 0) := by
  obtain ⟨_, a, c, h1, h2, _⟩ := h
  exact ⟨a, c, h1, h2⟩

theorem edCells_append (a b : List Ed) : edCells (a ++ b) = edCells a ++ edCells b := by simp [edCells]
theorem edCells_length : ∀ (es : List Ed), (edCells es).length = es.length * 3
  | [] => rfl
  | e :: r => by
    have h := edCells_length r
    simp only [edCells] at h
    simp only [edCells, List.flatMap_cons, List.length_append, List.length_cons, List.length_nil, h]
    omega
theorem edCells_get : ∀ (es : List Ed) (i : Nat), i < es.length →
    (edCells es)[i * 3]? = some (.int .i64 (es.getD i (0, 0, 0)).1) ∧ (edCells es)[i * 3 + 1]? = some (.int .i64 (es.getD i (0, 0, 0)).2.1) ∧ (edCells es)[i * 3 + 2]? = some (.int .i64 (es.getD i (0, 0, 0)).2.2)
  | e :: r, 0, _ => ⟨rfl, rfl, rfl⟩
  | e :: r, i + 1, h => by
    have ih := edCells_get r i (by simpa using h)
    have e1 : edCells (e :: r) = Value.int .i64 e.1 :: .int .i64 e.2.1 :: .int .i64 e.2.2 :: edCells r := rfl
    have e2 : (e :: r).getD (i + 1) (0, 0, 0) = r.getD i (0, 0, 0) := rfl
    rw [e1, e2, show (i + 1) * 3 = i * 3 + 1 + 1 + 1 from by omega]
    exact ih

theorem edAt_of_row {w : World} {B g n c : Nat} {T : TypeId} {xs : List Value} {es : List Ed} (hown : w.ownsRow B T 3 (.slice (some ⟨g, 0, none⟩) n c) n xs) (hx : ∀ j, j < es.length * 3 → xs[j]? = (edCells es)[j]?)
    (hl : es.length ≤ n) (i : Nat) (hi : i < es.length) : EdAt w g (0 + i * 3) (es.getD i (0, 0, 0)) := by
  obtain ⟨g1, g2, g3⟩ := edCells_get es i hi
  rw [Nat.zero_add]
  refine ⟨?_, ?_, ?_⟩
  · rw [hown.cellAt (i * 3) (by omega), hx _ (by omega), g1]
  · rw [hown.cellAt (i * 3 + 1) (by omega), hx _ (by omega), g2]
  · rw [hown.cellAt (i * 3 + 2) (by omega), hx _ (by omega), g3]

theorem edges_of_row {w : World} {B g c : Nat} {T : TypeId} {es : List Ed} (hw : ∀ e ∈ es, EdWf e)
    (hown : w.ownsRow B T 3 (.slice (some ⟨g, 0, none⟩) es.length c) es.length (edCells es)) : IsEdges w (.slice (some ⟨g, 0, none⟩) es.length c) es :=
  ⟨hw, _, _, rfl, (fun h => (by cases h)), .inr ⟨g, 0, rfl, (hown.lt g rfl).2, fun i hi => edAt_of_row hown (fun _ _ => rfl) (Nat.le_refl _) i hi⟩⟩

/-- Three stores in a row of edges. -/
def set3 (w : World) (g o : Nat) (e : Ed) : World :=
  ((w.setCell ⟨g, o, none⟩ (.int .i64 e.1)).setCell ⟨g, o + 1, none⟩ (.int .i64 e.2.1)).setCell ⟨g, o + 2, none⟩ (.int .i64 e.2.2)

theorem stored3 {w : World} {B g n c : Nat} {T : TypeId} {xs : List Value} (hown : w.ownsRow B T 3 (.slice (some ⟨g, 0, none⟩) n c) n xs) (o : Nat) (e : Ed) :
    (set3 w g o e).ownsRow B T 3 (.slice (some ⟨g, 0, none⟩) n c) n (((xs.set o (.int .i64 e.1)).set (o + 1) (.int .i64 e.2.1)).set (o + 2) (.int .i64 e.2.2)) :=
  (((hown.stored o _).1.stored (o + 1) _).1.stored (o + 2) _).1

theorem set3_below {B0 : Nat} {w0 w : World} (h : Below B0 w0 w) {g : Nat} (hg : B0 ≤ g) (o : Nat) (e : Ed) : Below B0 w0 (set3 w g o e) :=
  ((h.setCell (by exact hg) _).setCell (by exact hg) _).setCell (by exact hg) _

theorem set3_cells (es : List Ed) (n k : Nat) (hk : k < n) (hl : n ≤ es.length) (z : Value) :
    (((edCells (es.take k) ++ List.replicate ((n - k) * 3) z).set (k * 3) (.int .i64 (es.getD k (0, 0, 0)).1)).set (k * 3 + 1) (.int .i64 (es.getD k (0, 0, 0)).2.1)).set (k * 3 + 2) (.int .i64 (es.getD k (0, 0, 0)).2.2)
      = edCells (es.take (k + 1)) ++ List.replicate ((n - (k + 1)) * 3) z := by
  have h1 : (edCells (es.take k)).length = k * 3 := by rw [edCells_length, List.length_take]; omega
  have h2 : es.take (k + 1) = es.take k ++ [es.getD k (0, 0, 0)] := by
    rw [List.take_succ_eq_append_getElem (by omega)]
    simp [List.getD_eq_getElem?_getD, List.getElem?_eq_getElem (show k < es.length by omega)]
  have h3 : (n - k) * 3 = (n - (k + 1)) * 3 + 1 + 1 + 1 := by omega
  rw [List.set_append_right _ _ (by omega), List.set_append_right _ _ (by omega), List.set_append_right _ _ (by omega), h1, h2, edCells_append, h3, List.replicate_succ, List.replicate_succ, List.replicate_succ,
    show k * 3 - k * 3 = 0 from by omega, show k * 3 + 1 - k * 3 = 1 from by omega, show k * 3 + 2 - k * 3 = 2 from by omega, List.append_assoc]
  rfl

end Go.Proofs.Qxb6603412a
