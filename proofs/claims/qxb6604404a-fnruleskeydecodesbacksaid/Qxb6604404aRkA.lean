/-
  The size tests, the copy of a slice of ints.
-/
import Derived.Test.Qxb6604404aRows
import Derived.WalkKit
import Derived.WalkSpells
import Derived.WalkLawsBesides
namespace Go.Proofs.Qxb6604404a
open Go.RowKit
set_option linter.unusedVariables false

theorem bytes20_yes (a : Option Addr) (n c : Nat) (w : World) (hn : n ≤ 1048576) :
    Calls Try.prog 20 #[.slice a n c] w fun e w' => e = .returned (.bool true) ∧ w' = w := by
  go_enter Try.func20, Try.ntmps20
  go_wp2
  go_ret
  exact ⟨rfl, rfl⟩

theorem bytes20_no (a : Option Addr) (n c : Nat) (w : World) (hn : ¬ n ≤ 1048576) :
    Calls Try.prog 20 #[.slice a n c] w fun e w' => e = .returned (.bool false) ∧ w' = w := by
  go_enter Try.func20, Try.ntmps20
  go_wp2
  go_ret
  exact ⟨rfl, rfl⟩

theorem bytes23_yes (a : Option Addr) (n c : Nat) (a' : Option Addr) (n' c' : Nat) (w : World) (hn : n + n' ≤ 1048576) :
    Calls Try.prog 23 #[.slice a n c, .slice a' n' c'] w fun e w' => e = .returned (.bool true) ∧ w' = w := by
  go_enter Try.func23, Try.ntmps23
  go_wp2
  go_ret
  exact ⟨rfl, rfl⟩

theorem bytes23_no (a : Option Addr) (n c : Nat) (a' : Option Addr) (n' c' : Nat) (w : World) (hm : n ≤ maxLen) (hm' : n' ≤ maxLen) (hn : ¬ n + n' ≤ 1048576) :
    Calls Try.prog 23 #[.slice a n c, .slice a' n' c'] w fun e w' => e = .returned (.bool false) ∧ w' = w := by
  unfold maxLen at hm hm'
  by_cases h1 : n ≤ 1048576
  · by_cases h2 : n' ≤ 1048576
    · go_enter Try.func23, Try.ntmps23
      go_wp2
      go_ret
      exact ⟨rfl, rfl⟩
    · go_enter Try.func23, Try.ntmps23
      go_wp2
      go_ret
      exact ⟨rfl, rfl⟩
  · go_enter Try.func23, Try.ntmps23
    go_wp2
    go_ret
    exact ⟨rfl, rfl⟩

theorem Try.info3 : (Try.prog.info? 3).map (fun i => (i.zero, i.size, i.bytes)) = some (some (.int .i64 0), 1, 8) := by kernel_rfl

theorem clone21_nil (w : World) :
    Calls Try.prog 21 #[.slice none 0 0] w fun e w' => e = .returned (.slice none 0 0) ∧ w' = w := by
  have hnil := fun wx => Lib.run_eql_slice_nil (P := Try.prog) (w := wx) 44 3 none 0 0 0 0 Try.underlying44
  go_enter Try.func21, Try.ntmps21
  go_wp2
  go_ret
  exact ⟨rfl, rfl⟩

theorem take_set_next (zs : List Int) (n k : Nat) (hk : k < n) (hl : n ≤ zs.length) :
    ((zs.take k).map (Value.int .i64) ++ List.replicate (n - k) (Value.int .i64 0)).set k (.int .i64 (zs.getD k 0)) = (zs.take (k + 1)).map (Value.int .i64) ++ List.replicate (n - (k + 1)) (Value.int .i64 0) := by
  have h1 : ((zs.take k).map (Value.int .i64)).length = k := by simp; omega
  rw [List.set_append_right _ _ (by omega), h1, Nat.sub_self, show n - k = (n - (k + 1)) + 1 from by omega, List.replicate_succ, List.set_cons_zero]
  have h2 : zs.take (k + 1) = zs.take k ++ [zs.getD k 0] := by
    rw [List.take_succ_eq_append_getElem (by omega)]
    simp [List.getD_eq_getElem?_getD, List.getElem?_eq_getElem (show k < zs.length by omega)]
  rw [h2, List.map_append, List.append_assoc]
  rfl

set_option maxHeartbeats 400000 in
theorem clone21_some (b off n c : Nat) (zs : List Int) (w : World) (hn : n ≤ 1048576) (hb : b < w.heap.size) (hl : n ≤ zs.length)
    (hc : ∀ i, i < n → w.cell? ⟨b, off + i, none⟩ = some (.int .i64 (zs.getD i 0))) :
    Calls Try.prog 21 #[.slice (some ⟨b, off, none⟩) n c] w fun e w' => e = .returned (.slice (some ⟨w.heap.size, 0, none⟩) n n) ∧
      w'.ownsRow w.heap.size 3 1 (.slice (some ⟨w.heap.size, 0, none⟩) n n) n ((zs.take n).map (Value.int .i64)) ∧ Below w.heap.size w w' := by
  have hnil := fun wx => Lib.run_eql_slice_nil (P := Try.prog) (w := wx) 44 3 (some ⟨b, off, none⟩) n c 0 0 Try.underlying44
  obtain ⟨i0, hi, hz0, hz1, hz2⟩ := info_parts Try.info3
  go_enter Try.func21, Try.ntmps21
  go_wp2_with (at_make; refine wpList_make_full _ rfl _ _ 44 rfl w.heap.size 3 i0 (.int .i64 0) 1 Try.underlying44 hi hz0 hz1 .i64 .i64 _ _ n rfl rfl rfl rfl (by rw [hz2]; omega) (by unfold maxLen; omega) (Nat.le_refl _) ?_; intro w1 hown hgrow)
  have hb1 : Below w.heap.size w w1 := (Below.refl _ _).grown hgrow (Nat.le_refl _) (by intro k hk; cases hk)
  have hown1 : w1.ownsRow w.heap.size 3 1 (.slice (some ⟨w.heap.size, 0, none⟩) n n) n ((zs.take 0).map (Value.int .i64) ++ List.replicate (n - 0) (Value.int .i64 0)) := by
    have h := hown
    rw [Nat.mul_one, show (Value.int IntKind.i64 0).cells = #[Value.int IntKind.i64 0] from rfl, toList_madeCells_one] at h
    simpa using h
  clear hown hgrow hnil
  go_loopw [4] (fun i wr => ∃ k : Nat, k ≤ n ∧ i = .int .i64 k ∧ wr.ownsRow w.heap.size 3 1 (.slice (some ⟨w.heap.size, 0, none⟩) n n) n ((zs.take k).map (Value.int .i64) ++ List.replicate (n - k) (Value.int .i64 0)) ∧ Below w.heap.size w wr)
    (fun i _ => n - (intOf i).toNat)
  case atStart => exact ⟨0, Nat.zero_le _, rfl, hown1, hb1⟩
  case round =>
    obtain ⟨k, hk, rfl, hown, hbr⟩ := hrel
    clear hown1 hb1
    by_cases hlt : k < n
    · have hcx : wr.cell? ⟨b, off + k, none⟩ = some (.int .i64 (zs.getD k 0)) := (hbr.cell (by exact hb)).trans (hc k hlt)
      have hfz := hown.frozenAt k
      obtain ⟨u, hu⟩ : ∃ u, wr.cell? ⟨w.heap.size, k, none⟩ = some u := by
        rw [hown.cellAt k (by omega)]
        exact ⟨_, List.getElem?_eq_getElem (by simp; omega)⟩
      have hst := (hown.stored k (.int .i64 (zs.getD k 0))).1
      rw [take_set_next zs n k hlt hl] at hst
      go_wp2
      go_roundw
      case rel => exact ⟨k + 1, by omega, by go_num, by simpa using hst, hbr.setCell (by simp) _⟩
      case measure => simp [intOf]; omega
    · have hkn : k = n := by omega
      subst hkn
      go_wp2
      go_ret
      refine ⟨rfl, ?_, hbr⟩
      simpa using hown


set_option maxHeartbeats 400000 in
theorem clone21_empty (a : Addr) (c : Nat) (w : World) :
    Calls Try.prog 21 #[.slice (some a) 0 c] w fun e w' => e = .returned (.slice (some ⟨w.heap.size, 0, none⟩) 0 0) ∧ Below w.heap.size w w' := by
  have hnil := fun wx => Lib.run_eql_slice_nil (P := Try.prog) (w := wx) 44 3 (some a) 0 c 0 0 Try.underlying44
  obtain ⟨i0, hi, hz0, hz1, hz2⟩ := info_parts Try.info3
  go_enter Try.func21, Try.ntmps21
  go_wp2_with (at_make; refine wpList_make_full _ rfl _ _ 44 rfl w.heap.size 3 i0 (.int .i64 0) 1 Try.underlying44 hi hz0 hz1 .i64 .i64 _ _ 0 rfl rfl rfl rfl (by rw [hz2]; omega) (by unfold maxLen; omega) (Nat.le_refl _) ?_; intro w1 hown hgrow)
  have hb1 : Below w.heap.size w w1 := (Below.refl _ _).grown hgrow (Nat.le_refl _) (by intro k hk; cases hk)
  clear hown hgrow hnil
  refine wp_loop_rounds 1 ?_
  rw [rounds_succ]
  go_wp2
  go_ret
  exact ⟨rfl, hb1⟩

/-- The numbers of a slice of ints, as the walks want them. -/
def IsInts (w : World) (a : Option Addr) (n : Nat) (zs : List Int) : Prop :=
  zs.length = n ∧ (∀ z ∈ zs, -9223372036854775808 ≤ z ∧ z ≤ 9223372036854775807) ∧
    (n = 0 ∨ ∃ b off, a = some ⟨b, off, none⟩ ∧ b < w.heap.size ∧ ∀ i, i < n → w.cell? ⟨b, off + i, none⟩ = some (.int .i64 (zs.getD i 0)))

theorem IsInts.later {w w' : World} {a : Option Addr} {n : Nat} {zs : List Int} (h : IsInts w a n zs) (hb : Below w.heap.size w w') : IsInts w' a n zs := by
  obtain ⟨h1, h0, h2⟩ := h
  refine ⟨h1, h0, ?_⟩
  rcases h2 with h2 | ⟨b, off, h2, h3, h4⟩
  · exact .inl h2
  · exact .inr ⟨b, off, h2, Nat.lt_of_lt_of_le h3 hb.size, fun i hi => (hb.cell (p := ⟨b, off + i, none⟩) h3).trans (h4 i hi)⟩

theorem cloneAny (a : Option Addr) (n c : Nat) (zs : List Int) (w : World) (hn : n ≤ 1048576) (hc0 : a = none → n = 0 ∧ c = 0) (h : IsInts w a n zs) :
    Calls Try.prog 21 #[.slice a n c] w fun e w' => ∃ a' c', e = .returned (.slice a' n c') ∧ IsInts w' a' n zs ∧ Below w.heap.size w w' := by
  cases a with
  | none =>
    obtain ⟨rfl, rfl⟩ := hc0 rfl
    refine (clone21_nil w).mono ?_
    rintro e w' ⟨rfl, rfl⟩
    exact ⟨none, 0, rfl, h, Below.refl _ _⟩
  | some a =>
    obtain ⟨h1, hw, h2⟩ := h
    by_cases h0 : n = 0
    · subst h0
      refine (clone21_empty a c w).mono ?_
      rintro e w' ⟨rfl, hb⟩
      exact ⟨_, _, rfl, ⟨h1, hw, .inl rfl⟩, hb⟩
    · rcases h2 with h2 | ⟨b, off, h2, h3, h4⟩
      · exact absurd h2 h0
      · obtain rfl : a = ⟨b, off, none⟩ := by simpa using h2
        refine (clone21_some b off n c zs w hn h3 (by omega) h4).mono ?_
        rintro e w' ⟨rfl, hown, hb⟩
        refine ⟨_, _, rfl, ⟨h1, hw, .inr ⟨w.heap.size, 0, rfl, (hown.lt _ rfl).2, fun i hi => ?_⟩⟩, hb⟩
        rw [Nat.zero_add, hown.cellAt i (by omega), List.getElem?_map, List.getElem?_take_of_lt hi, List.getElem?_eq_getElem (by omega)]
        simp [List.getD_eq_getElem?_getD, List.getElem?_eq_getElem (show i < zs.length by omega)]

end Go.Proofs.Qxb6604404a
