/-
  FnBackReferenceRoundTrip: the plain laws on bytes, the contracts as this law wants them, and its early returns.
-/
import Derived.Test.Qxb6603766aBrF
namespace Go.Proofs.Qxb6603766a
open Go.RowKit
set_option linter.unusedVariables false

/-! ### Plain: the captured bytes found forward and backward -/
theorem br_self_fore (s : List UInt8) (lo hi : Nat) : brOk s lo hi lo false = true := by
  simp [brOk, Lib.hasPrefix, List.take_prefix]

theorem br_self_back (s : List UInt8) (lo hi : Nat) (h1 : lo ≤ hi) : brOk s lo hi hi true = true := by
  simp only [brOk, if_true, Lib.hasSuffix, List.isSuffixOf_iff_suffix]
  have e : (s.drop lo).take (hi - lo) = (s.take hi).drop lo := by rw [List.drop_take]
  rw [e]
  exact List.drop_suffix _ _

theorem br_turn (s : List UInt8) (lo hi pos : Nat) (h1 : lo ≤ hi) (h2 : hi ≤ s.length) (h3 : pos + (hi - lo) ≤ s.length) :
    brOk s lo hi (pos + (hi - lo)) true = brOk s lo hi pos false := by
  have hlen : ((s.drop lo).take (hi - lo)).length = hi - lo := by simp; omega
  generalize hc : (s.drop lo).take (hi - lo) = cp at hlen
  have hA : brOk s lo hi (pos + (hi - lo)) true = true ↔ (s.drop pos).take (hi - lo) = cp := by
    simp only [brOk, if_true, hc, Lib.hasSuffix, List.isSuffixOf_iff_suffix]
    rw [List.suffix_iff_eq_drop, hlen]
    have e : ((s.take (pos + (hi - lo))).drop ((s.take (pos + (hi - lo))).length - (hi - lo))) = (s.drop pos).take (hi - lo) := by
      rw [show (s.take (pos + (hi - lo))).length - (hi - lo) = pos from by rw [List.length_take, Nat.min_eq_left h3]; omega, List.drop_take, Nat.add_sub_cancel_left]
    rw [e]
    exact eq_comm
  have hB : brOk s lo hi pos false = true ↔ (s.drop pos).take (hi - lo) = cp := by
    simp only [brOk, hc, Lib.hasPrefix, Bool.false_eq_true, if_false, List.isPrefixOf_iff_prefix]
    rw [List.prefix_iff_eq_take, hlen]
    exact eq_comm
  rw [Bool.eq_iff_iff, hA, hB]

theorem br_undo (s : List UInt8) (lo hi pos : Nat) (h1 : lo ≤ hi) (h2 : hi ≤ s.length) (h3 : pos ≤ s.length) (h : brOk s lo hi pos true = true) : brOk s lo hi (pos - (hi - lo)) false = true := by
  have hr := room_back s lo hi pos h1 h2 h
  rw [← br_turn s lo hi (pos - (hi - lo)) h1 h2 (by omega), show pos - (hi - lo) + (hi - lo) = pos from by omega]
  exact h

/-! ### The registers, from call to call -/
/-- What stands while the law goes from call to call: the clone's two registers; nothing below B has turned. -/
def St (B : Nat) (w0 w : World) (idx lo hi : Nat) : Prop :=
  Below B w0 w ∧ B < w.heap.size ∧ w.cell? ⟨B, 0 + 2 * idx, none⟩ = some (.int .i64 lo) ∧ w.cell? ⟨B, 0 + (2 * idx + 1), none⟩ = some (.int .i64 hi)

theorem St.next {B : Nat} {w0 w w' : World} {idx lo hi : Nat} (h : St B w0 w idx lo hi) (hb : Below w.heap.size w w') : St B w0 w' idx lo hi := by
  obtain ⟨h1, h2, h3, h4⟩ := h
  exact ⟨h1.trans (hb.mono (by omega)), Nat.lt_of_lt_of_le h2 hb.size, (hb.cell (p := ⟨B, 0 + 2 * idx, none⟩) h2).trans h3, (hb.cell (p := ⟨B, 0 + (2 * idx + 1), none⟩) h2).trans h4⟩

theorem tNo (bk : Bool) (s : ByteArray) (B n idx : Nat) (P steps : Int) (p lo hi : Nat) (w0 w : World) (hP : Hid (P = p)) (hst : St B w0 w idx lo hi)
    (hidx : 2 * idx + 1 < n) (hn : n ≤ 1048576) (hs : s.size ≤ 1048576) (hpos : p ≤ s.size) (h1 : lo ≤ hi) (h2 : hi ≤ s.size) (hok : Hid (brOk s.data.toList lo hi p bk = false)) :
    Calls Try.prog 16 #[.string s, .slice (some ⟨B, 0, none⟩) n n, .int .i64 idx, .bool bk, .int .i64 P, .int .i64 steps] w fun e w' =>
      e = .returned (.tuple #[.bool false, .int .i64 P, .int .i64 (wrap64 (steps + ((hi : Int) - lo)))]) ∧ St B w0 w' idx lo hi := by
  have hPo : P = p := hP
  subst hPo
  refine (zz16_no s B n n idx p steps lo hi bk w hidx hn hs hpos hst.2.1 h1 h2 hst.2.2.1 hst.2.2.2 hok).mono ?_
  rintro e w' ⟨rfl, hb⟩
  exact ⟨rfl, hst.next hb⟩

theorem tBack (s : ByteArray) (B n idx : Nat) (P steps : Int) (p lo hi : Nat) (w0 w : World) (hP : Hid (P = p)) (hst : St B w0 w idx lo hi)
    (hidx : 2 * idx + 1 < n) (hn : n ≤ 1048576) (hs : s.size ≤ 1048576) (hpos : p ≤ s.size) (h1 : lo ≤ hi) (h2 : hi ≤ s.size) (hok : Hid (brOk s.data.toList lo hi p true = true)) :
    Calls Try.prog 16 #[.string s, .slice (some ⟨B, 0, none⟩) n n, .int .i64 idx, .bool true, .int .i64 P, .int .i64 steps] w fun e w' =>
      e = .returned (.tuple #[.bool true, .int .i64 (P - ((hi : Int) - lo)), .int .i64 (wrap64 (steps + ((hi : Int) - lo)))]) ∧ St B w0 w' idx lo hi := by
  have hPo : P = p := hP
  subst hPo
  refine (zz16_back s B n n idx p steps lo hi w hidx hn hs hpos hst.2.1 h1 h2 hst.2.2.1 hst.2.2.2 hok).mono ?_
  rintro e w' ⟨rfl, hb⟩
  exact ⟨rfl, hst.next hb⟩

theorem tFore (s : ByteArray) (B n idx : Nat) (P steps : Int) (p lo hi : Nat) (w0 w : World) (hP : Hid (P = p)) (hst : St B w0 w idx lo hi)
    (hidx : 2 * idx + 1 < n) (hn : n ≤ 1048576) (hs : s.size ≤ 1048576) (hpos : p ≤ s.size) (h1 : lo ≤ hi) (h2 : hi ≤ s.size) (hok : Hid (brOk s.data.toList lo hi p false = true)) :
    Calls Try.prog 16 #[.string s, .slice (some ⟨B, 0, none⟩) n n, .int .i64 idx, .bool false, .int .i64 P, .int .i64 steps] w fun e w' =>
      e = .returned (.tuple #[.bool true, .int .i64 (P + ((hi : Int) - lo)), .int .i64 (wrap64 (steps + ((hi : Int) - lo)))]) ∧ St B w0 w' idx lo hi := by
  have hPo : P = p := hP
  subst hPo
  refine (zz16_fore s B n n idx p steps lo hi w hidx hn hs hpos hst.2.1 h1 h2 hst.2.2.1 hst.2.2.2 hok).mono ?_
  rintro e w' ⟨rfl, hb⟩
  exact ⟨rfl, hst.next hb⟩


theorem bytes17 (s : ByteArray) (a : Option Addr) (n c : Nat) (x y z : Int) (w : World) (hs : s.size ≤ maxLen) (hn : n ≤ maxLen) :
    Calls Try.prog 17 #[.string s, .slice a n c, .int .i64 x, .int .i64 y, .int .i64 z] w fun e w' => e = .returned (.bool (decide (s.size + n ≤ 1048576))) ∧ w' = w := by
  unfold maxLen at hs hn
  by_cases h1 : s.size ≤ 1048576
  · by_cases h2 : n ≤ 1048576
    · by_cases h3 : s.size + n ≤ 1048576
      · rw [decide_eq_true h3]
        go_enter Try.func17, Try.ntmps17
        go_wp2
        go_ret
        exact ⟨rfl, rfl⟩
      · rw [decide_eq_false h3]
        go_enter Try.func17, Try.ntmps17
        go_wp2
        go_ret
        exact ⟨rfl, rfl⟩
    · rw [decide_eq_false (by omega)]
      go_enter Try.func17, Try.ntmps17
      go_wp2
      go_ret
      exact ⟨rfl, rfl⟩
  · rw [decide_eq_false (by omega)]
    go_enter Try.func17, Try.ntmps17
    go_wp2
    go_ret
    exact ⟨rfl, rfl⟩

theorem bytes17_yes (s : ByteArray) (a : Option Addr) (n c : Nat) (x y z : Int) (w : World) (hs : s.size ≤ maxLen) (hn : n ≤ maxLen) (h : s.size + n ≤ 1048576) :
    Calls Try.prog 17 #[.string s, .slice a n c, .int .i64 x, .int .i64 y, .int .i64 z] w fun e w' => e = .returned (.bool true) ∧ w' = w := by
  have := bytes17 s a n c x y z w hs hn
  rwa [decide_eq_true h] at this
theorem bytes17_no (s : ByteArray) (a : Option Addr) (n c : Nat) (x y z : Int) (w : World) (hs : s.size ≤ maxLen) (hn : n ≤ maxLen) (h : ¬ s.size + n ≤ 1048576) :
    Calls Try.prog 17 #[.string s, .slice a n c, .int .i64 x, .int .i64 y, .int .i64 z] w fun e w' => e = .returned (.bool false) ∧ w' = w := by
  have := bytes17 s a n c x y z w hs hn
  rwa [decide_eq_false h] at this

set_option maxRecDepth 100000 in
set_option maxHeartbeats 2000000 in
/-- The early returns: none of them reads a register. -/
theorem early6 (s : ByteArray) (a : Option Addr) (n c : Nat) (x : Int) (y z : Int) (w : World) (hs : s.size ≤ maxLen) (hn : n ≤ maxLen)
    (h : ¬ (s.size + n ≤ 1048576 ∧ n ≤ 131072 ∧ s.size + 8 * n ≤ 1048576 ∧ 0 ≤ x ∧ x < n / 2 ∧ 0 ≤ y ∧ y ≤ s.size)) :
    Calls Try.prog 6 #[.string s, .slice a n c, .int .i64 x, .int .i64 y, .int .i64 z] w fun e w' => e = .returned (.bool true) ∧ Below w.heap.size w w' := by
  by_cases g1 : s.size + n ≤ 1048576
  · by_cases g2 : n ≤ 131072
    · by_cases g3 : s.size + 8 * n ≤ 1048576
      · by_cases g4 : 0 ≤ x
        · by_cases g5 : x < n / 2
          · by_cases g6 : 0 ≤ y
            · have g7 : ¬ y ≤ s.size := by omega
              clear h
              go_enter Try.func6, Try.ntmps6
              go_wp2_with (go_at_call 17; refine (bytes17_yes _ _ _ _ _ _ _ _ hs hn g1).mono ?_; rintro e w' ⟨rfl, rfl⟩)
              go_ret
              exact ⟨rfl, Below.refl _ _⟩
            · clear h
              go_enter Try.func6, Try.ntmps6
              go_wp2_with (go_at_call 17; refine (bytes17_yes _ _ _ _ _ _ _ _ hs hn g1).mono ?_; rintro e w' ⟨rfl, rfl⟩)
              go_ret
              exact ⟨rfl, Below.refl _ _⟩
          · clear h
            go_enter Try.func6, Try.ntmps6
            go_wp2_with (go_at_call 17; refine (bytes17_yes _ _ _ _ _ _ _ _ hs hn g1).mono ?_; rintro e w' ⟨rfl, rfl⟩)
            go_ret
            exact ⟨rfl, Below.refl _ _⟩
        · clear h
          go_enter Try.func6, Try.ntmps6
          go_wp2_with (go_at_call 17; refine (bytes17_yes _ _ _ _ _ _ _ _ hs hn g1).mono ?_; rintro e w' ⟨rfl, rfl⟩)
          go_ret
          exact ⟨rfl, Below.refl _ _⟩
      · clear h
        go_enter Try.func6, Try.ntmps6
        go_wp2_with (go_at_call 17; refine (bytes17_yes _ _ _ _ _ _ _ _ hs hn g1).mono ?_; rintro e w' ⟨rfl, rfl⟩)
        go_ret
        exact ⟨rfl, Below.refl _ _⟩
    · clear h
      go_enter Try.func6, Try.ntmps6
      go_wp2_with (go_at_call 17; refine (bytes17_yes _ _ _ _ _ _ _ _ hs hn g1).mono ?_; rintro e w' ⟨rfl, rfl⟩)
      go_ret
      exact ⟨rfl, Below.refl _ _⟩
  · clear h
    go_enter Try.func6, Try.ntmps6
    go_wp2_with (go_at_call 17; refine (bytes17_no _ _ _ _ _ _ _ _ hs hn g1).mono ?_; rintro e w' ⟨rfl, rfl⟩)
    go_ret
    exact ⟨rfl, Below.refl _ _⟩

end Go.Proofs.Qxb6603766a
