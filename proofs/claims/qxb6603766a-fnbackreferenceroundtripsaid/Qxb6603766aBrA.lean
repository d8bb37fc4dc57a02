/-
  The two size tests and the clone of a slice of ints.
-/
import Derived.Test.Qxb6603766aRows
import Derived.WalkKit
import Derived.WalkSpells
import Derived.WalkLawsBesides
namespace Go.Proofs.Qxb6603766a
open Go.RowKit

set_option maxHeartbeats 400000 in
theorem bytes14 (s : ByteArray) (a : Option Addr) (n c : Nat) (x : Int) (b : Bool) (y z : Int) (w : World) (hs : s.size ≤ maxLen) (hn : n ≤ maxLen) :
    Calls Try.prog 14 #[.string s, .slice a n c, .int .i64 x, .bool b, .int .i64 y, .int .i64 z] w fun e w' => e = .returned (.bool (decide (s.size + n ≤ 1048576))) ∧ w' = w := by
  unfold maxLen at hs hn
  by_cases h1 : s.size ≤ 1048576
  · by_cases h2 : n ≤ 1048576
    · by_cases h3 : s.size + n ≤ 1048576
      · rw [decide_eq_true h3]
        go_enter Try.func14, Try.ntmps14
        go_wp2
        go_ret
        exact ⟨rfl, rfl⟩
      · rw [decide_eq_false h3]
        go_enter Try.func14, Try.ntmps14
        go_wp2
        go_ret
        exact ⟨rfl, rfl⟩
    · rw [decide_eq_false (by omega)]
      go_enter Try.func14, Try.ntmps14
      go_wp2
      go_ret
      exact ⟨rfl, rfl⟩
  · rw [decide_eq_false (by omega)]
    go_enter Try.func14, Try.ntmps14
    go_wp2
    go_ret
    exact ⟨rfl, rfl⟩

theorem Try.info3 : (Try.prog.info? 3).map (fun i => (i.zero, i.size, i.bytes)) = some (some (.int .i64 0), 1, 8) := by kernel_rfl

theorem clone15_nil (w : World) :
    Calls Try.prog 15 #[.slice none 0 0] w fun e w' => e = .returned (.slice none 0 0) ∧ w' = w := by
  have hnil := fun wx => Lib.run_eql_slice_nil (P := Try.prog) (w := wx) 29 3 none 0 0 0 0 Try.underlying29
  go_enter Try.func15, Try.ntmps15
  go_wp2
  go_ret
  exact ⟨rfl, rfl⟩

theorem take_set_next (zs : List Int) (n k : Nat) (hk : k < n) (hl : n ≤ zs.length) :
    ((zs.take k).map (Value.int .i64) ++ List.replicate (n - k) (Value.int .i64 0)).set k (.int .i64 (zs.getD k 0)) = (zs.take (k + 1)).map (Value.int .i64) ++ List.replicate (n - (k + 1)) (Value.int .i64 0) := by
  have h1 : ((zs.take k).map (Value.int .i64)).length = k := by simp; omega
  rw [List.set_append_right _ _ (by omega), h1, Nat.sub_self, show n - k = (n - (k + 1)) + 1 from by omega, List.replicate_succ, List.set_cons_zero]
  have h2 : zs.take (k + 1) = zs.take k ++ [zs.getD k 0] := by
    rw [List.take_succ_eq_append_getElem (by omega)]
    simp [List.getD_eq_getElem?_getD, List.getElem?_eq_getElem (show k < zs.length by omega)]
  rw [h2, List.map_append, List.append_assoc]
  rfl

set_option maxHeartbeats 400000 in
theorem clone15_some (b off n c : Nat) (zs : List Int) (w : World) (hn : n ≤ 1048576) (hb : b < w.heap.size) (hl : n ≤ zs.length)
    (hc : ∀ i, i < n → w.cell? ⟨b, off + i, none⟩ = some (.int .i64 (zs.getD i 0))) :
    Calls Try.prog 15 #[.slice (some ⟨b, off, none⟩) n c] w fun e w' => e = .returned (.slice (some ⟨w.heap.size, 0, none⟩) n n) ∧
      w'.ownsRow w.heap.size 3 1 (.slice (some ⟨w.heap.size, 0, none⟩) n n) n ((zs.take n).map (Value.int .i64)) ∧ Below w.heap.size w w' := by
  have hnil := fun wx => Lib.run_eql_slice_nil (P := Try.prog) (w := wx) 29 3 (some ⟨b, off, none⟩) n c 0 0 Try.underlying29
  obtain ⟨i0, hi, hz0, hz1, hz2⟩ := info_parts Try.info3
  go_enter Try.func15, Try.ntmps15
  go_wp2_with (at_make; refine wpList_make_full _ rfl _ _ 29 rfl w.heap.size 3 i0 (.int .i64 0) 1 Try.underlying29 hi hz0 hz1 .i64 .i64 _ _ n rfl rfl rfl rfl (by rw [hz2]; omega) (by unfold maxLen; omega) (Nat.le_refl _) ?_; intro w1 hown hgrow)
  have hb1 : Below w.heap.size w w1 := (Below.refl _ _).grown hgrow (Nat.le_refl _) (by intro k hk; cases hk)
  have hown1 : w1.ownsRow w.heap.size 3 1 (.slice (some ⟨w.heap.size, 0, none⟩) n n) n ((zs.take 0).map (Value.int .i64) ++ List.replicate (n - 0) (Value.int .i64 0)) := by
    have h := hown
    rw [Nat.mul_one, show (Value.int IntKind.i64 0).cells = #[Value.int IntKind.i64 0] from rfl, toList_madeCells_one] at h
    simpa using h
  clear hown hgrow hnil
  go_loopw [4] (fun i wr => ∃ k : Nat, k ≤ n ∧ i = .int .i64 k ∧ wr.ownsRow w.heap.size 3 1 (.slice (some ⟨w.heap.size, 0, none⟩) n n) n ((zs.take k).map (Value.int .i64) ++ List.replicate (n - k) (Value.int .i64 0)) ∧ Below w.heap.size w wr)
    (fun i _ => n - (intOf i).toNat)
  case atStart => exact ⟨0, Nat.zero_le _, rfl, hown1, hb1⟩
  case round =>
    obtain ⟨k, hk, rfl, hown, hbr⟩ := hrel
    clear hown1 hb1
    by_cases hlt : k < n
    · have hcx : wr.cell? ⟨b, off + k, none⟩ = some (.int .i64 (zs.getD k 0)) := (hbr.cell (by exact hb)).trans (hc k hlt)
      have hfz := hown.frozenAt k
      obtain ⟨u, hu⟩ : ∃ u, wr.cell? ⟨w.heap.size, k, none⟩ = some u := by
        rw [hown.cellAt k (by omega)]
        exact ⟨_, List.getElem?_eq_getElem (by simp; omega)⟩
      have hst := (hown.stored k (.int .i64 (zs.getD k 0))).1
      rw [take_set_next zs n k hlt hl] at hst
      go_wp2
      go_roundw
      case rel => exact ⟨k + 1, by omega, by go_num, by simpa using hst, hbr.setCell (by simp) _⟩
      case measure => simp [intOf]; omega
    · have hkn : k = n := by omega
      subst hkn
      go_wp2
      go_ret
      refine ⟨rfl, ?_, hbr⟩
      simpa using hown

end Go.Proofs.Qxb6603766a
