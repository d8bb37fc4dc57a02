/-
  FnBackReferenceRoundTrip: the walk, behind the early returns.
-/
import Derived.Test.Qxb6603766aRtA
namespace Go.Proofs.Qxb6603766a
open Go.RowKit
set_option linter.unusedVariables false

section
variable (s : ByteArray) (b off n c idx pos : Nat) (z : Int) (zs : List Int) (w : World)

set_option maxRecDepth 100000 in
set_option maxHeartbeats 2000000 in
theorem rt_a (hs : s.size ≤ maxLen) (hn : n ≤ maxLen) (g1 : s.size + n ≤ 1048576) (g2 : n ≤ 131072) (g3 : s.size + 8 * n ≤ 1048576) (g5 : 2 * idx + 1 < n) (g7 : pos ≤ s.size) (hb : b < w.heap.size) (hl : n ≤ zs.length)
    (hc : ∀ i, i < n → w.cell? ⟨b, off + i, none⟩ = some (.int .i64 (zs.getD i 0))) (lo hi : Nat) (elo : Hid (zs.getD (2 * idx) 0 = (lo : Int))) (ehi : Hid (zs.getD (2 * idx + 1) 0 = (hi : Int))) (h1 : lo ≤ hi) (h2 : hi ≤ s.size) (hroom : pos + (hi - lo) ≤ s.size) (okF : Hid (brOk s.data.toList lo hi pos false = true)) (okB2 : Hid (brOk s.data.toList lo hi pos true = true)) :
    Calls Try.prog 6 #[.string s, .slice (some ⟨b, off, none⟩) n c, .int .i64 idx, .int .i64 pos, .int .i64 z] w fun e w' => e = .returned (.bool true) ∧ Below w.heap.size w w' := by
  have r0 : w.cell? ⟨b, off + 2 * idx, none⟩ = some (.int .i64 lo) := by rw [hc (2 * idx) (by omega), elo.out]
  have r1 : w.cell? ⟨b, off + (2 * idx + 1), none⟩ = some (.int .i64 hi) := by rw [hc (2 * idx + 1) (by omega), ehi.out]
  have h2' : hi ≤ s.data.toList.length := by rw [← Lib.size_eq]; exact h2
  have g7' : pos ≤ s.data.toList.length := by rw [← Lib.size_eq]; exact g7
  have hr' : pos + (hi - lo) ≤ s.data.toList.length := by rw [← Lib.size_eq]; exact hroom
  have hF0 : Hid (brOk s.data.toList lo hi lo false = true) := br_self_fore _ _ _
  have hB0 : Hid (brOk s.data.toList lo hi hi true = true) := br_self_back _ _ _ h1
  have okB : Hid (brOk s.data.toList lo hi (pos + (hi - lo)) true = true) := (br_turn s.data.toList lo hi pos h1 h2' hr').trans okF
  have hrb : hi - lo ≤ pos := room_back s.data.toList lo hi pos h1 h2' okB2.out
  have okF2 : Hid (brOk s.data.toList lo hi (pos - (hi - lo)) false = true) := br_undo s.data.toList lo hi pos h1 h2' g7' okB2.out
  have HC := show Hid _ from hc
  clear hc
  go_enter Try.func6, Try.ntmps6
  go_wp2_with (go_at_call 17; refine (bytes17_yes _ _ _ _ _ _ _ _ hs hn g1).mono ?_; rintro e w ⟨rfl, rfl⟩)
  refine (clone15_some b off n c zs _ (by omega) hb hl HC.out).mono ?_
  rintro e w1 ⟨rfl, hown, hbel⟩
  have q0 := regs_at w1 _ n (2 * idx) zs hl (by omega) hown
  have q1 := regs_at w1 _ n (2 * idx + 1) zs hl (by omega) hown
  rw [elo.out] at q0
  rw [ehi.out] at q1
  have hst : St w.heap.size w w1 idx lo hi := ⟨hbel, own_lt _ _ _ _ hown, q0, q1⟩
  clear hown q0 q1 hbel
  go_wp2_with fail
  refine (tFore s _ n idx _ z lo lo hi w _ (by exact rfl) (by exact hst) g5 (by omega) (by omega) (by omega) h1 h2 hF0).mono ?_
  rintro e wk ⟨rfl, hst⟩
  go_wp2_with fail
  refine (tBack s _ n idx _ z hi lo hi w _ (by exact rfl) (by exact hst) g5 (by omega) (by omega) h2 h1 h2 hB0).mono ?_
  rintro e wk ⟨rfl, hst⟩
  go_wp2_with fail
  refine (tFore s _ n idx _ z pos lo hi w _ (by exact rfl) (by exact hst) g5 (by omega) (by omega) g7 h1 h2 okF).mono ?_
  rintro e wk ⟨rfl, hst⟩
  go_wp2_with fail
  refine (tBack s _ n idx _ z (pos + (hi - lo)) lo hi w _ (by unfold Hid; omega) (by exact hst) g5 (by omega) (by omega) hroom h1 h2 okB).mono ?_
  rintro e wk ⟨rfl, hst⟩
  go_wp2_with fail
  refine (tBack s _ n idx _ _ (pos + (hi - lo)) lo hi w _ (by unfold Hid; omega) (by exact hst) g5 (by omega) (by omega) hroom h1 h2 okB).mono ?_
  rintro e wk ⟨rfl, hst⟩
  go_wp2_with fail
  refine (tBack s _ n idx _ z pos lo hi w _ (by exact rfl) (by exact hst) g5 (by omega) (by omega) g7 h1 h2 okB2).mono ?_
  rintro e wk ⟨rfl, hst⟩
  go_wp2_with fail
  refine (tFore s _ n idx _ _ (pos - (hi - lo)) lo hi w _ (by unfold Hid; omega) (by exact hst) g5 (by omega) (by omega) (by omega) h1 h2 okF2).mono ?_
  rintro e wk ⟨rfl, hst⟩
  go_wp2
  go_ret
  exact ⟨rfl, hst.1⟩

set_option maxRecDepth 100000 in
set_option maxHeartbeats 2000000 in
theorem rt_b (hs : s.size ≤ maxLen) (hn : n ≤ maxLen) (g1 : s.size + n ≤ 1048576) (g2 : n ≤ 131072) (g3 : s.size + 8 * n ≤ 1048576) (g5 : 2 * idx + 1 < n) (g7 : pos ≤ s.size) (hb : b < w.heap.size) (hl : n ≤ zs.length)
    (hc : ∀ i, i < n → w.cell? ⟨b, off + i, none⟩ = some (.int .i64 (zs.getD i 0))) (lo hi : Nat) (elo : Hid (zs.getD (2 * idx) 0 = (lo : Int))) (ehi : Hid (zs.getD (2 * idx + 1) 0 = (hi : Int))) (h1 : lo ≤ hi) (h2 : hi ≤ s.size) (hroom : pos + (hi - lo) ≤ s.size) (okF : Hid (brOk s.data.toList lo hi pos false = true)) (okB2 : Hid (brOk s.data.toList lo hi pos true = false)) :
    Calls Try.prog 6 #[.string s, .slice (some ⟨b, off, none⟩) n c, .int .i64 idx, .int .i64 pos, .int .i64 z] w fun e w' => e = .returned (.bool true) ∧ Below w.heap.size w w' := by
  have r0 : w.cell? ⟨b, off + 2 * idx, none⟩ = some (.int .i64 lo) := by rw [hc (2 * idx) (by omega), elo.out]
  have r1 : w.cell? ⟨b, off + (2 * idx + 1), none⟩ = some (.int .i64 hi) := by rw [hc (2 * idx + 1) (by omega), ehi.out]
  have h2' : hi ≤ s.data.toList.length := by rw [← Lib.size_eq]; exact h2
  have g7' : pos ≤ s.data.toList.length := by rw [← Lib.size_eq]; exact g7
  have hr' : pos + (hi - lo) ≤ s.data.toList.length := by rw [← Lib.size_eq]; exact hroom
  have hF0 : Hid (brOk s.data.toList lo hi lo false = true) := br_self_fore _ _ _
  have hB0 : Hid (brOk s.data.toList lo hi hi true = true) := br_self_back _ _ _ h1
  have okB : Hid (brOk s.data.toList lo hi (pos + (hi - lo)) true = true) := (br_turn s.data.toList lo hi pos h1 h2' hr').trans okF
  have HC := show Hid _ from hc
  clear hc
  go_enter Try.func6, Try.ntmps6
  go_wp2_with (go_at_call 17; refine (bytes17_yes _ _ _ _ _ _ _ _ hs hn g1).mono ?_; rintro e w ⟨rfl, rfl⟩)
  refine (clone15_some b off n c zs _ (by omega) hb hl HC.out).mono ?_
  rintro e w1 ⟨rfl, hown, hbel⟩
  have q0 := regs_at w1 _ n (2 * idx) zs hl (by omega) hown
  have q1 := regs_at w1 _ n (2 * idx + 1) zs hl (by omega) hown
  rw [elo.out] at q0
  rw [ehi.out] at q1
  have hst : St w.heap.size w w1 idx lo hi := ⟨hbel, own_lt _ _ _ _ hown, q0, q1⟩
  clear hown q0 q1 hbel
  go_wp2_with fail
  refine (tFore s _ n idx _ z lo lo hi w _ (by exact rfl) (by exact hst) g5 (by omega) (by omega) (by omega) h1 h2 hF0).mono ?_
  rintro e wk ⟨rfl, hst⟩
  go_wp2_with fail
  refine (tBack s _ n idx _ z hi lo hi w _ (by exact rfl) (by exact hst) g5 (by omega) (by omega) h2 h1 h2 hB0).mono ?_
  rintro e wk ⟨rfl, hst⟩
  go_wp2_with fail
  refine (tFore s _ n idx _ z pos lo hi w _ (by exact rfl) (by exact hst) g5 (by omega) (by omega) g7 h1 h2 okF).mono ?_
  rintro e wk ⟨rfl, hst⟩
  go_wp2_with fail
  refine (tBack s _ n idx _ z (pos + (hi - lo)) lo hi w _ (by unfold Hid; omega) (by exact hst) g5 (by omega) (by omega) hroom h1 h2 okB).mono ?_
  rintro e wk ⟨rfl, hst⟩
  go_wp2_with fail
  refine (tBack s _ n idx _ _ (pos + (hi - lo)) lo hi w _ (by unfold Hid; omega) (by exact hst) g5 (by omega) (by omega) hroom h1 h2 okB).mono ?_
  rintro e wk ⟨rfl, hst⟩
  go_wp2_with fail
  refine (tNo true s _ n idx _ z pos lo hi w _ (by exact rfl) (by exact hst) g5 (by omega) (by omega) g7 h1 h2 okB2).mono ?_
  rintro e wk ⟨rfl, hst⟩
  go_wp2
  go_ret
  exact ⟨rfl, hst.1⟩

set_option maxRecDepth 100000 in
set_option maxHeartbeats 2000000 in
theorem rt_c (hs : s.size ≤ maxLen) (hn : n ≤ maxLen) (g1 : s.size + n ≤ 1048576) (g2 : n ≤ 131072) (g3 : s.size + 8 * n ≤ 1048576) (g5 : 2 * idx + 1 < n) (g7 : pos ≤ s.size) (hb : b < w.heap.size) (hl : n ≤ zs.length)
    (hc : ∀ i, i < n → w.cell? ⟨b, off + i, none⟩ = some (.int .i64 (zs.getD i 0))) (lo hi : Nat) (elo : Hid (zs.getD (2 * idx) 0 = (lo : Int))) (ehi : Hid (zs.getD (2 * idx + 1) 0 = (hi : Int))) (h1 : lo ≤ hi) (h2 : hi ≤ s.size) (hroom : pos + (hi - lo) ≤ s.size) (okF : Hid (brOk s.data.toList lo hi pos false = false)) (okB2 : Hid (brOk s.data.toList lo hi pos true = true)) :
    Calls Try.prog 6 #[.string s, .slice (some ⟨b, off, none⟩) n c, .int .i64 idx, .int .i64 pos, .int .i64 z] w fun e w' => e = .returned (.bool true) ∧ Below w.heap.size w w' := by
  have r0 : w.cell? ⟨b, off + 2 * idx, none⟩ = some (.int .i64 lo) := by rw [hc (2 * idx) (by omega), elo.out]
  have r1 : w.cell? ⟨b, off + (2 * idx + 1), none⟩ = some (.int .i64 hi) := by rw [hc (2 * idx + 1) (by omega), ehi.out]
  have h2' : hi ≤ s.data.toList.length := by rw [← Lib.size_eq]; exact h2
  have g7' : pos ≤ s.data.toList.length := by rw [← Lib.size_eq]; exact g7
  have hr' : pos + (hi - lo) ≤ s.data.toList.length := by rw [← Lib.size_eq]; exact hroom
  have hF0 : Hid (brOk s.data.toList lo hi lo false = true) := br_self_fore _ _ _
  have hB0 : Hid (brOk s.data.toList lo hi hi true = true) := br_self_back _ _ _ h1
  have okB : Hid (brOk s.data.toList lo hi (pos + (hi - lo)) true = false) := (br_turn s.data.toList lo hi pos h1 h2' hr').trans okF
  have hrb : hi - lo ≤ pos := room_back s.data.toList lo hi pos h1 h2' okB2.out
  have okF2 : Hid (brOk s.data.toList lo hi (pos - (hi - lo)) false = true) := br_undo s.data.toList lo hi pos h1 h2' g7' okB2.out
  have HC := show Hid _ from hc
  clear hc
  go_enter Try.func6, Try.ntmps6
  go_wp2_with (go_at_call 17; refine (bytes17_yes _ _ _ _ _ _ _ _ hs hn g1).mono ?_; rintro e w ⟨rfl, rfl⟩)
  refine (clone15_some b off n c zs _ (by omega) hb hl HC.out).mono ?_
  rintro e w1 ⟨rfl, hown, hbel⟩
  have q0 := regs_at w1 _ n (2 * idx) zs hl (by omega) hown
  have q1 := regs_at w1 _ n (2 * idx + 1) zs hl (by omega) hown
  rw [elo.out] at q0
  rw [ehi.out] at q1
  have hst : St w.heap.size w w1 idx lo hi := ⟨hbel, own_lt _ _ _ _ hown, q0, q1⟩
  clear hown q0 q1 hbel
  go_wp2_with fail
  refine (tFore s _ n idx _ z lo lo hi w _ (by exact rfl) (by exact hst) g5 (by omega) (by omega) (by omega) h1 h2 hF0).mono ?_
  rintro e wk ⟨rfl, hst⟩
  go_wp2_with fail
  refine (tBack s _ n idx _ z hi lo hi w _ (by exact rfl) (by exact hst) g5 (by omega) (by omega) h2 h1 h2 hB0).mono ?_
  rintro e wk ⟨rfl, hst⟩
  go_wp2_with fail
  refine (tNo false s _ n idx _ z pos lo hi w _ (by exact rfl) (by exact hst) g5 (by omega) (by omega) g7 h1 h2 okF).mono ?_
  rintro e wk ⟨rfl, hst⟩
  go_wp2_with fail
  refine (tNo true s _ n idx _ z (pos + (hi - lo)) lo hi w _ (by unfold Hid; omega) (by exact hst) g5 (by omega) (by omega) hroom h1 h2 okB).mono ?_
  rintro e wk ⟨rfl, hst⟩
  go_wp2_with fail
  refine (tBack s _ n idx _ z pos lo hi w _ (by exact rfl) (by exact hst) g5 (by omega) (by omega) g7 h1 h2 okB2).mono ?_
  rintro e wk ⟨rfl, hst⟩
  go_wp2_with fail
  refine (tFore s _ n idx _ _ (pos - (hi - lo)) lo hi w _ (by unfold Hid; omega) (by exact hst) g5 (by omega) (by omega) (by omega) h1 h2 okF2).mono ?_
  rintro e wk ⟨rfl, hst⟩
  go_wp2
  go_ret
  exact ⟨rfl, hst.1⟩

set_option maxRecDepth 100000 in
set_option maxHeartbeats 2000000 in
theorem rt_d (hs : s.size ≤ maxLen) (hn : n ≤ maxLen) (g1 : s.size + n ≤ 1048576) (g2 : n ≤ 131072) (g3 : s.size + 8 * n ≤ 1048576) (g5 : 2 * idx + 1 < n) (g7 : pos ≤ s.size) (hb : b < w.heap.size) (hl : n ≤ zs.length)
    (hc : ∀ i, i < n → w.cell? ⟨b, off + i, none⟩ = some (.int .i64 (zs.getD i 0))) (lo hi : Nat) (elo : Hid (zs.getD (2 * idx) 0 = (lo : Int))) (ehi : Hid (zs.getD (2 * idx + 1) 0 = (hi : Int))) (h1 : lo ≤ hi) (h2 : hi ≤ s.size) (hroom : pos + (hi - lo) ≤ s.size) (okF : Hid (brOk s.data.toList lo hi pos false = false)) (okB2 : Hid (brOk s.data.toList lo hi pos true = false)) :
    Calls Try.prog 6 #[.string s, .slice (some ⟨b, off, none⟩) n c, .int .i64 idx, .int .i64 pos, .int .i64 z] w fun e w' => e = .returned (.bool true) ∧ Below w.heap.size w w' := by
  have r0 : w.cell? ⟨b, off + 2 * idx, none⟩ = some (.int .i64 lo) := by rw [hc (2 * idx) (by omega), elo.out]
  have r1 : w.cell? ⟨b, off + (2 * idx + 1), none⟩ = some (.int .i64 hi) := by rw [hc (2 * idx + 1) (by omega), ehi.out]
  have h2' : hi ≤ s.data.toList.length := by rw [← Lib.size_eq]; exact h2
  have g7' : pos ≤ s.data.toList.length := by rw [← Lib.size_eq]; exact g7
  have hr' : pos + (hi - lo) ≤ s.data.toList.length := by rw [← Lib.size_eq]; exact hroom
  have hF0 : Hid (brOk s.data.toList lo hi lo false = true) := br_self_fore _ _ _
  have hB0 : Hid (brOk s.data.toList lo hi hi true = true) := br_self_back _ _ _ h1
  have okB : Hid (brOk s.data.toList lo hi (pos + (hi - lo)) true = false) := (br_turn s.data.toList lo hi pos h1 h2' hr').trans okF
  have HC := show Hid _ from hc
  clear hc
  go_enter Try.func6, Try.ntmps6
  go_wp2_with (go_at_call 17; refine (bytes17_yes _ _ _ _ _ _ _ _ hs hn g1).mono ?_; rintro e w ⟨rfl, rfl⟩)
  refine (clone15_some b off n c zs _ (by omega) hb hl HC.out).mono ?_
  rintro e w1 ⟨rfl, hown, hbel⟩
  have q0 := regs_at w1 _ n (2 * idx) zs hl (by omega) hown
  have q1 := regs_at w1 _ n (2 * idx + 1) zs hl (by omega) hown
  rw [elo.out] at q0
  rw [ehi.out] at q1
  have hst : St w.heap.size w w1 idx lo hi := ⟨hbel, own_lt _ _ _ _ hown, q0, q1⟩
  clear hown q0 q1 hbel
  go_wp2_with fail
  refine (tFore s _ n idx _ z lo lo hi w _ (by exact rfl) (by exact hst) g5 (by omega) (by omega) (by omega) h1 h2 hF0).mono ?_
  rintro e wk ⟨rfl, hst⟩
  go_wp2_with fail
  refine (tBack s _ n idx _ z hi lo hi w _ (by exact rfl) (by exact hst) g5 (by omega) (by omega) h2 h1 h2 hB0).mono ?_
  rintro e wk ⟨rfl, hst⟩
  go_wp2_with fail
  refine (tNo false s _ n idx _ z pos lo hi w _ (by exact rfl) (by exact hst) g5 (by omega) (by omega) g7 h1 h2 okF).mono ?_
  rintro e wk ⟨rfl, hst⟩
  go_wp2_with fail
  refine (tNo true s _ n idx _ z (pos + (hi - lo)) lo hi w _ (by unfold Hid; omega) (by exact hst) g5 (by omega) (by omega) hroom h1 h2 okB).mono ?_
  rintro e wk ⟨rfl, hst⟩
  go_wp2_with fail
  refine (tNo true s _ n idx _ z pos lo hi w _ (by exact rfl) (by exact hst) g5 (by omega) (by omega) g7 h1 h2 okB2).mono ?_
  rintro e wk ⟨rfl, hst⟩
  go_wp2
  go_ret
  exact ⟨rfl, hst.1⟩

set_option maxRecDepth 100000 in
set_option maxHeartbeats 2000000 in
theorem rt_e (hs : s.size ≤ maxLen) (hn : n ≤ maxLen) (g1 : s.size + n ≤ 1048576) (g2 : n ≤ 131072) (g3 : s.size + 8 * n ≤ 1048576) (g5 : 2 * idx + 1 < n) (g7 : pos ≤ s.size) (hb : b < w.heap.size) (hl : n ≤ zs.length)
    (hc : ∀ i, i < n → w.cell? ⟨b, off + i, none⟩ = some (.int .i64 (zs.getD i 0))) (lo hi : Nat) (elo : Hid (zs.getD (2 * idx) 0 = (lo : Int))) (ehi : Hid (zs.getD (2 * idx + 1) 0 = (hi : Int))) (h1 : lo ≤ hi) (h2 : hi ≤ s.size) (hroom : ¬ pos + (hi - lo) ≤ s.size) (okB2 : Hid (brOk s.data.toList lo hi pos true = true)) :
    Calls Try.prog 6 #[.string s, .slice (some ⟨b, off, none⟩) n c, .int .i64 idx, .int .i64 pos, .int .i64 z] w fun e w' => e = .returned (.bool true) ∧ Below w.heap.size w w' := by
  have r0 : w.cell? ⟨b, off + 2 * idx, none⟩ = some (.int .i64 lo) := by rw [hc (2 * idx) (by omega), elo.out]
  have r1 : w.cell? ⟨b, off + (2 * idx + 1), none⟩ = some (.int .i64 hi) := by rw [hc (2 * idx + 1) (by omega), ehi.out]
  have h2' : hi ≤ s.data.toList.length := by rw [← Lib.size_eq]; exact h2
  have g7' : pos ≤ s.data.toList.length := by rw [← Lib.size_eq]; exact g7
  have hF0 : Hid (brOk s.data.toList lo hi lo false = true) := br_self_fore _ _ _
  have hB0 : Hid (brOk s.data.toList lo hi hi true = true) := br_self_back _ _ _ h1
  have hrb : hi - lo ≤ pos := room_back s.data.toList lo hi pos h1 h2' okB2.out
  have okF2 : Hid (brOk s.data.toList lo hi (pos - (hi - lo)) false = true) := br_undo s.data.toList lo hi pos h1 h2' g7' okB2.out
  have HC := show Hid _ from hc
  clear hc
  go_enter Try.func6, Try.ntmps6
  go_wp2_with (go_at_call 17; refine (bytes17_yes _ _ _ _ _ _ _ _ hs hn g1).mono ?_; rintro e w ⟨rfl, rfl⟩)
  refine (clone15_some b off n c zs _ (by omega) hb hl HC.out).mono ?_
  rintro e w1 ⟨rfl, hown, hbel⟩
  have q0 := regs_at w1 _ n (2 * idx) zs hl (by omega) hown
  have q1 := regs_at w1 _ n (2 * idx + 1) zs hl (by omega) hown
  rw [elo.out] at q0
  rw [ehi.out] at q1
  have hst : St w.heap.size w w1 idx lo hi := ⟨hbel, own_lt _ _ _ _ hown, q0, q1⟩
  clear hown q0 q1 hbel
  go_wp2_with fail
  refine (tFore s _ n idx _ z lo lo hi w _ (by exact rfl) (by exact hst) g5 (by omega) (by omega) (by omega) h1 h2 hF0).mono ?_
  rintro e wk ⟨rfl, hst⟩
  go_wp2_with fail
  refine (tBack s _ n idx _ z hi lo hi w _ (by exact rfl) (by exact hst) g5 (by omega) (by omega) h2 h1 h2 hB0).mono ?_
  rintro e wk ⟨rfl, hst⟩
  go_wp2_with fail
  refine (tBack s _ n idx _ z pos lo hi w _ (by exact rfl) (by exact hst) g5 (by omega) (by omega) g7 h1 h2 okB2).mono ?_
  rintro e wk ⟨rfl, hst⟩
  go_wp2_with fail
  refine (tFore s _ n idx _ _ (pos - (hi - lo)) lo hi w _ (by unfold Hid; omega) (by exact hst) g5 (by omega) (by omega) (by omega) h1 h2 okF2).mono ?_
  rintro e wk ⟨rfl, hst⟩
  go_wp2
  go_ret
  exact ⟨rfl, hst.1⟩

set_option maxRecDepth 100000 in
set_option maxHeartbeats 2000000 in
theorem rt_f (hs : s.size ≤ maxLen) (hn : n ≤ maxLen) (g1 : s.size + n ≤ 1048576) (g2 : n ≤ 131072) (g3 : s.size + 8 * n ≤ 1048576) (g5 : 2 * idx + 1 < n) (g7 : pos ≤ s.size) (hb : b < w.heap.size) (hl : n ≤ zs.length)
    (hc : ∀ i, i < n → w.cell? ⟨b, off + i, none⟩ = some (.int .i64 (zs.getD i 0))) (lo hi : Nat) (elo : Hid (zs.getD (2 * idx) 0 = (lo : Int))) (ehi : Hid (zs.getD (2 * idx + 1) 0 = (hi : Int))) (h1 : lo ≤ hi) (h2 : hi ≤ s.size) (hroom : ¬ pos + (hi - lo) ≤ s.size) (okB2 : Hid (brOk s.data.toList lo hi pos true = false)) :
    Calls Try.prog 6 #[.string s, .slice (some ⟨b, off, none⟩) n c, .int .i64 idx, .int .i64 pos, .int .i64 z] w fun e w' => e = .returned (.bool true) ∧ Below w.heap.size w w' := by
  have r0 : w.cell? ⟨b, off + 2 * idx, none⟩ = some (.int .i64 lo) := by rw [hc (2 * idx) (by omega), elo.out]
  have r1 : w.cell? ⟨b, off + (2 * idx + 1), none⟩ = some (.int .i64 hi) := by rw [hc (2 * idx + 1) (by omega), ehi.out]
  have h2' : hi ≤ s.data.toList.length := by rw [← Lib.size_eq]; exact h2
  have g7' : pos ≤ s.data.toList.length := by rw [← Lib.size_eq]; exact g7
  have hF0 : Hid (brOk s.data.toList lo hi lo false = true) := br_self_fore _ _ _
  have hB0 : Hid (brOk s.data.toList lo hi hi true = true) := br_self_back _ _ _ h1
  have HC := show Hid _ from hc
  clear hc
  go_enter Try.func6, Try.ntmps6
  go_wp2_with (go_at_call 17; refine (bytes17_yes _ _ _ _ _ _ _ _ hs hn g1).mono ?_; rintro e w ⟨rfl, rfl⟩)
  refine (clone15_some b off n c zs _ (by omega) hb hl HC.out).mono ?_
  rintro e w1 ⟨rfl, hown, hbel⟩
  have q0 := regs_at w1 _ n (2 * idx) zs hl (by omega) hown
  have q1 := regs_at w1 _ n (2 * idx + 1) zs hl (by omega) hown
  rw [elo.out] at q0
  rw [ehi.out] at q1
  have hst : St w.heap.size w w1 idx lo hi := ⟨hbel, own_lt _ _ _ _ hown, q0, q1⟩
  clear hown q0 q1 hbel
  go_wp2_with fail
  refine (tFore s _ n idx _ z lo lo hi w _ (by exact rfl) (by exact hst) g5 (by omega) (by omega) (by omega) h1 h2 hF0).mono ?_
  rintro e wk ⟨rfl, hst⟩
  go_wp2_with fail
  refine (tBack s _ n idx _ z hi lo hi w _ (by exact rfl) (by exact hst) g5 (by omega) (by omega) h2 h1 h2 hB0).mono ?_
  rintro e wk ⟨rfl, hst⟩
  go_wp2_with fail
  refine (tNo true s _ n idx _ z pos lo hi w _ (by exact rfl) (by exact hst) g5 (by omega) (by omega) g7 h1 h2 okB2).mono ?_
  rintro e wk ⟨rfl, hst⟩
  go_wp2
  go_ret
  exact ⟨rfl, hst.1⟩

end
end Go.Proofs.Qxb6603766a
