/-
  FnBackReferenceMovesByItsCapture: the walk, behind the early returns: the group has captured something.
-/
import Derived.Test.Qxb6603766aBrF
namespace Go.Proofs.Qxb6603766a
open Go.RowKit
set_option linter.unusedVariables false

section
variable (s : ByteArray) (b off n c idx pos : Nat) (z : Int) (zs : List Int) (w : World)

set_option maxHeartbeats 800000 in
theorem main5_no (bk : Bool) (hs : s.size ≤ maxLen) (hn : n ≤ maxLen) (g1 : s.size + n ≤ 1048576) (g2 : n ≤ 131072) (g3 : s.size + 8 * n ≤ 1048576) (g5 : 2 * idx + 1 < n) (g7 : pos ≤ s.size) (hb : b < w.heap.size) (hl : n ≤ zs.length)
    (hc : ∀ i, i < n → w.cell? ⟨b, off + i, none⟩ = some (.int .i64 (zs.getD i 0))) (lo hi : Nat) (elo : Hid (zs.getD (2 * idx) 0 = (lo : Int))) (ehi : Hid (zs.getD (2 * idx + 1) 0 = (hi : Int))) (h1 : lo ≤ hi) (h2 : hi ≤ s.size) (hok : Hid (brOk s.data.toList lo hi pos bk = false)) (hne : lo < hi) :
    Calls Try.prog 5 #[.string s, .slice (some ⟨b, off, none⟩) n c, .int .i64 idx, .bool bk, .int .i64 pos, .int .i64 z] w fun e w' => e = .returned (.bool true) ∧ Below w.heap.size w w' := by
  have r0 : w.cell? ⟨b, off + 2 * idx, none⟩ = some (.int .i64 lo) := by rw [hc (2 * idx) (by omega), elo.out]
  have r1 : w.cell? ⟨b, off + (2 * idx + 1), none⟩ = some (.int .i64 hi) := by rw [hc (2 * idx + 1) (by omega), ehi.out]
  have HC := show Hid _ from hc
  clear hc
  go_enter Try.func5, Try.ntmps5
  go_wp2_with (go_at_call 14; refine (bytes14_yes _ _ _ _ _ _ _ _ _ hs hn g1).mono ?_; rintro e w' ⟨rfl, rfl⟩)
  refine (clone15_some b off n c zs _ (by omega) hb hl HC.out).mono ?_
  rintro e w1 ⟨rfl, hown, hbel⟩
  have q0 := regs_at w1 _ n (2 * idx) zs hl (by omega) hown
  have q1 := regs_at w1 _ n (2 * idx + 1) zs hl (by omega) hown
  rw [elo.out] at q0
  rw [ehi.out] at q1
  have hlt := own_lt _ _ _ _ hown
  clear hown
  go_wp2_with fail
  refine (zz16_no s _ n n idx pos z lo hi bk _ g5 (by omega) (by omega) g7 hlt h1 h2 q0 q1 hok.out).mono ?_
  rintro e w2 ⟨rfl, hbel2⟩
  go_wp2
  go_ret
  exact ⟨rfl, hbel.trans (hbel2.mono (by omega))⟩

set_option maxHeartbeats 800000 in
theorem main5_back (hs : s.size ≤ maxLen) (hn : n ≤ maxLen) (g1 : s.size + n ≤ 1048576) (g2 : n ≤ 131072) (g3 : s.size + 8 * n ≤ 1048576) (g5 : 2 * idx + 1 < n) (g7 : pos ≤ s.size) (hb : b < w.heap.size) (hl : n ≤ zs.length)
    (hc : ∀ i, i < n → w.cell? ⟨b, off + i, none⟩ = some (.int .i64 (zs.getD i 0))) (lo hi : Nat) (elo : Hid (zs.getD (2 * idx) 0 = (lo : Int))) (ehi : Hid (zs.getD (2 * idx + 1) 0 = (hi : Int))) (h1 : lo ≤ hi) (h2 : hi ≤ s.size) (hok : Hid (brOk s.data.toList lo hi pos true = true)) :
    Calls Try.prog 5 #[.string s, .slice (some ⟨b, off, none⟩) n c, .int .i64 idx, .bool true, .int .i64 pos, .int .i64 z] w fun e w' => e = .returned (.bool true) ∧ Below w.heap.size w w' := by
  have r0 : w.cell? ⟨b, off + 2 * idx, none⟩ = some (.int .i64 lo) := by rw [hc (2 * idx) (by omega), elo.out]
  have r1 : w.cell? ⟨b, off + (2 * idx + 1), none⟩ = some (.int .i64 hi) := by rw [hc (2 * idx + 1) (by omega), ehi.out]
  have hroom : hi - lo ≤ pos := room_back _ lo hi pos h1 (by rw [← Lib.size_eq]; exact h2) hok.out
  have HC := show Hid _ from hc
  clear hc
  go_enter Try.func5, Try.ntmps5
  go_wp2_with (go_at_call 14; refine (bytes14_yes _ _ _ _ _ _ _ _ _ hs hn g1).mono ?_; rintro e w' ⟨rfl, rfl⟩)
  refine (clone15_some b off n c zs _ (by omega) hb hl HC.out).mono ?_
  rintro e w1 ⟨rfl, hown, hbel⟩
  have q0 := regs_at w1 _ n (2 * idx) zs hl (by omega) hown
  have q1 := regs_at w1 _ n (2 * idx + 1) zs hl (by omega) hown
  rw [elo.out] at q0
  rw [ehi.out] at q1
  have hlt := own_lt _ _ _ _ hown
  clear hown
  go_wp2_with fail
  refine (zz16_back s _ n n idx pos z lo hi _ g5 (by omega) (by omega) g7 hlt h1 h2 q0 q1 hok.out).mono ?_
  rintro e w2 ⟨rfl, hbel2⟩
  go_wp2
  go_ret
  exact ⟨rfl, hbel.trans (hbel2.mono (by omega))⟩

set_option maxHeartbeats 800000 in
theorem main5_fore (hs : s.size ≤ maxLen) (hn : n ≤ maxLen) (g1 : s.size + n ≤ 1048576) (g2 : n ≤ 131072) (g3 : s.size + 8 * n ≤ 1048576) (g5 : 2 * idx + 1 < n) (g7 : pos ≤ s.size) (hb : b < w.heap.size) (hl : n ≤ zs.length)
    (hc : ∀ i, i < n → w.cell? ⟨b, off + i, none⟩ = some (.int .i64 (zs.getD i 0))) (lo hi : Nat) (elo : Hid (zs.getD (2 * idx) 0 = (lo : Int))) (ehi : Hid (zs.getD (2 * idx + 1) 0 = (hi : Int))) (h1 : lo ≤ hi) (h2 : hi ≤ s.size) (hok : Hid (brOk s.data.toList lo hi pos false = true)) :
    Calls Try.prog 5 #[.string s, .slice (some ⟨b, off, none⟩) n c, .int .i64 idx, .bool false, .int .i64 pos, .int .i64 z] w fun e w' => e = .returned (.bool true) ∧ Below w.heap.size w w' := by
  have r0 : w.cell? ⟨b, off + 2 * idx, none⟩ = some (.int .i64 lo) := by rw [hc (2 * idx) (by omega), elo.out]
  have r1 : w.cell? ⟨b, off + (2 * idx + 1), none⟩ = some (.int .i64 hi) := by rw [hc (2 * idx + 1) (by omega), ehi.out]
  have hroom : pos + (hi - lo) ≤ s.size := by rw [Lib.size_eq]; exact room_fore _ lo hi pos h1 (by rw [← Lib.size_eq]; exact h2) (by rw [← Lib.size_eq]; exact g7) hok.out
  have HC := show Hid _ from hc
  clear hc
  go_enter Try.func5, Try.ntmps5
  go_wp2_with (go_at_call 14; refine (bytes14_yes _ _ _ _ _ _ _ _ _ hs hn g1).mono ?_; rintro e w' ⟨rfl, rfl⟩)
  refine (clone15_some b off n c zs _ (by omega) hb hl HC.out).mono ?_
  rintro e w1 ⟨rfl, hown, hbel⟩
  have q0 := regs_at w1 _ n (2 * idx) zs hl (by omega) hown
  have q1 := regs_at w1 _ n (2 * idx + 1) zs hl (by omega) hown
  rw [elo.out] at q0
  rw [ehi.out] at q1
  have hlt := own_lt _ _ _ _ hown
  clear hown
  go_wp2_with fail
  refine (zz16_fore s _ n n idx pos z lo hi _ g5 (by omega) (by omega) g7 hlt h1 h2 q0 q1 hok.out).mono ?_
  rintro e w2 ⟨rfl, hbel2⟩
  go_wp2
  go_ret
  exact ⟨rfl, hbel.trans (hbel2.mono (by omega))⟩

set_option maxHeartbeats 800000 in
theorem main5_out (bk : Bool) (hs : s.size ≤ maxLen) (hn : n ≤ maxLen) (g1 : s.size + n ≤ 1048576) (g2 : n ≤ 131072) (g3 : s.size + 8 * n ≤ 1048576) (g5 : 2 * idx + 1 < n) (g7 : pos ≤ s.size)
    (lo hi : Int) (r0 : w.cell? ⟨b, off + 2 * idx, none⟩ = some (.int .i64 lo)) (r1 : w.cell? ⟨b, off + (2 * idx + 1), none⟩ = some (.int .i64 hi)) (hlo : 0 ≤ lo) (hout : ¬ (lo ≤ hi ∧ hi ≤ s.size)) :
    Calls Try.prog 5 #[.string s, .slice (some ⟨b, off, none⟩) n c, .int .i64 idx, .bool bk, .int .i64 pos, .int .i64 z] w fun e w' => e = .returned (.bool true) ∧ Below w.heap.size w w' := by
  by_cases h1 : lo ≤ hi
  · have h2 : ¬ hi ≤ s.size := fun h => hout ⟨h1, h⟩
    clear hout
    go_enter Try.func5, Try.ntmps5
    go_wp2_with (go_at_call 14; refine (bytes14_yes _ _ _ _ _ _ _ _ _ hs hn g1).mono ?_; rintro e w' ⟨rfl, rfl⟩)
    go_ret
    exact ⟨rfl, Below.refl _ _⟩
  · clear hout
    go_enter Try.func5, Try.ntmps5
    go_wp2_with (go_at_call 14; refine (bytes14_yes _ _ _ _ _ _ _ _ _ hs hn g1).mono ?_; rintro e w' ⟨rfl, rfl⟩)
    go_ret
    exact ⟨rfl, Below.refl _ _⟩

end
end Go.Proofs.Qxb6603766a
