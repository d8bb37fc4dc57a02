/-
  HasPrefix, HasSuffix, backReference.
-/
import Derived.Test.Qxb6603766aBrA
import Derived.Lib.Strings
import Derived.Deep.QuietTactic
import Derived.BigQuiet
namespace Go.Proofs.Qxb6603766a
open Go.RowKit

theorem pre28 (s p : ByteArray) (w : World) :
    Calls Try.prog 28 #[.string s, .string p] w fun e w' => e = .returned (.bool (Lib.hasPrefix s.data.toList p.data.toList)) ∧ w' = w := by
  rw [← Lib.hasPrefix_raw]
  by_cases h : p.size ≤ s.size
  · rw [decide_eq_true h, Bool.true_and]
    go_enter Try.func28, Try.ntmps28
    go_wp2
    go_ret
    exact ⟨rfl, rfl⟩
  · rw [decide_eq_false h, Bool.false_and]
    go_enter Try.func28, Try.ntmps28
    go_wp2
    go_ret
    exact ⟨rfl, rfl⟩

theorem suf27 (s p : ByteArray) (w : World) (hs : s.size ≤ maxLen) :
    Calls Try.prog 27 #[.string s, .string p] w fun e w' => e = .returned (.bool (Lib.hasSuffix s.data.toList p.data.toList)) ∧ w' = w := by
  unfold maxLen at hs
  rw [← Lib.hasSuffix_raw]
  by_cases h : p.size ≤ s.size
  · rw [decide_eq_true h, Bool.true_and]
    go_enter Try.func27, Try.ntmps27
    go_wp2
    go_ret
    exact ⟨rfl, rfl⟩
  · rw [decide_eq_false h, Bool.false_and]
    go_enter Try.func27, Try.ntmps27
    go_wp2
    go_ret
    exact ⟨rfl, rfl⟩

theorem pre26 (s p : ByteArray) (w : World) :
    Calls Try.prog 26 #[.string s, .string p] w fun e w' => e = .returned (.bool (Lib.hasPrefix s.data.toList p.data.toList)) ∧ w' = w := by
  go_enter Try.func26, Try.ntmps26
  go_wp2_with (go_at_call 28; refine (pre28 _ _ _).mono ?_; rintro e w' ⟨rfl, rfl⟩)
  go_ret
  exact ⟨rfl, rfl⟩

theorem suf25 (s p : ByteArray) (w : World) (hs : s.size ≤ maxLen) :
    Calls Try.prog 25 #[.string s, .string p] w fun e w' => e = .returned (.bool (Lib.hasSuffix s.data.toList p.data.toList)) ∧ w' = w := by
  go_enter Try.func25, Try.ntmps25
  go_wp2_with (go_at_call 27; refine (suf27 _ _ _ hs).mono ?_; rintro e w' ⟨rfl, rfl⟩)
  go_ret
  exact ⟨rfl, rfl⟩

set_option maxHeartbeats 400000 in
theorem back22_neg (mb ib pb rb ro n c idx : Nat) (lo hi : Int) (w : World)
    (hidx : 2 * idx + 1 < n) (hn : n ≤ 1048576)
    (c2 : w.cell? ⟨mb, 2, none⟩ = some (.slice (some ⟨rb, ro, none⟩) n c)) (i5 : w.cell? ⟨ib, 5, none⟩ = some (.int .i64 idx))
    (r0 : w.cell? ⟨rb, ro + 2 * idx, none⟩ = some (.int .i64 lo)) (r1 : w.cell? ⟨rb, ro + (2 * idx + 1), none⟩ = some (.int .i64 hi)) (hlo : lo < 0) :
    Calls Try.prog 22 #[.pointer (some ⟨mb, 0, none⟩), .pointer (some ⟨ib, 0, none⟩), .pointer (some ⟨pb, 0, none⟩)] w fun e w' => e = .returned (.bool true) ∧ ∃ nq, w' = w.drewN nq := by
  have b0 : (2 * (idx : Int)) < (n : Int) := by omega
  have b1 : (2 * (idx : Int) + 1) < (n : Int) := by omega
  go_enter Try.func22, Try.ntmps22
  go_wp2
  go_quiet (fail)
  go_wp2
  go_ret
  exact ⟨rfl, _, rfl⟩

end Go.Proofs.Qxb6603766a
