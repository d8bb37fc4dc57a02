/-
  backReference where the group has captured something.
-/
import Derived.Test.Qxb6603766aBrB
namespace Go.Proofs.Qxb6603766a
open Go.RowKit
set_option linter.unusedVariables false

/-- What the back reference answers, in plain lists of bytes. -/
def brOk (s : List UInt8) (lo hi pos : Nat) (back : Bool) : Bool :=
  if back then Lib.hasSuffix (s.take pos) ((s.drop lo).take (hi - lo)) else Lib.hasPrefix (s.drop pos) ((s.drop lo).take (hi - lo))

theorem brOk_back (s : ByteArray) (lo hi pos : Nat) :
    Lib.hasSuffix (s.extract 0 pos).data.toList (s.extract lo hi).data.toList = brOk s.data.toList lo hi pos true := by
  rw [Lib.extract_data, Lib.extract_data]
  simp [brOk]

theorem brOk_fore (s : ByteArray) (lo hi pos : Nat) :
    Lib.hasPrefix (s.extract pos s.size).data.toList (s.extract lo hi).data.toList = brOk s.data.toList lo hi pos false := by
  have h : (s.data.toList.drop pos).take (s.size - pos) = s.data.toList.drop pos := List.take_of_length_le (by rw [List.length_drop, Lib.size_eq]; exact Nat.le_refl _)
  rw [Lib.extract_data, Lib.extract_data, h]
  simp [brOk]

theorem suf25_is (s p : ByteArray) (w : World) (b : Bool) (hs : s.size ≤ maxLen) (h : Hid (Lib.hasSuffix s.data.toList p.data.toList = b)) :
    Calls Try.prog 25 #[.string s, .string p] w fun e w' => e = .returned (.bool b) ∧ w' = w := by
  rw [← h.out]; exact suf25 s p w hs

theorem pre26_is (s p : ByteArray) (w : World) (b : Bool) (h : Hid (Lib.hasPrefix s.data.toList p.data.toList = b)) :
    Calls Try.prog 26 #[.string s, .string p] w fun e w' => e = .returned (.bool b) ∧ w' = w := by
  rw [← h.out]; exact pre26 s p w

theorem fin_no (w : World) (a b mb pb B : Nat) (X u pv : Value) (h7 : w.cell? ⟨mb, 7, none⟩ = some u) (p0 : w.cell? ⟨pb, 0, none⟩ = some pv) (hB : B ≤ mb) :
    (((w.drewN a).setCell ⟨mb, 7, none⟩ X).drewN b).cell? ⟨pb, 0, none⟩ = some pv ∧ (((w.drewN a).setCell ⟨mb, 7, none⟩ X).drewN b).cell? ⟨mb, 7, none⟩ = some X ∧ Below B w (((w.drewN a).setCell ⟨mb, 7, none⟩ X).drewN b) := by
  refine ⟨?_, ?_, ?_⟩
  · rw [World.cell?_drewN, World.cell?_setCell_other _ _ _ _ (by simp), World.cell?_drewN, p0]
  · rw [World.cell?_drewN, World.cell?_setCell_same _ _ _ (by rw [World.cell?_drewN]; exact h7)]
  · exact below_drewN ((below_drewN (Below.refl _ _) a).setCell hB _) b

theorem fin_yes (w : World) (a b mb pb B : Nat) (X Y u pv : Value) (h7 : w.cell? ⟨mb, 7, none⟩ = some u) (p0 : w.cell? ⟨pb, 0, none⟩ = some pv) (hB : B ≤ mb) (hBp : B ≤ pb) :
    ((((w.drewN a).setCell ⟨mb, 7, none⟩ X).drewN b).setCell ⟨pb, 0, none⟩ Y).cell? ⟨pb, 0, none⟩ = some Y ∧ ((((w.drewN a).setCell ⟨mb, 7, none⟩ X).drewN b).setCell ⟨pb, 0, none⟩ Y).cell? ⟨mb, 7, none⟩ = some X ∧ Below B w ((((w.drewN a).setCell ⟨mb, 7, none⟩ X).drewN b).setCell ⟨pb, 0, none⟩ Y) := by
  obtain ⟨h1, h2, h3⟩ := fin_no w a b mb pb B X u pv h7 p0 hB
  refine ⟨World.cell?_setCell_same _ _ _ h1, ?_, h3.setCell hBp _⟩
  rw [World.cell?_setCell_other _ _ _ _ (by simp), h2]

set_option maxHeartbeats 400000 in
theorem back22_back_no (mb ib pb rb ro n c idx lo hi pos : Nat) (steps : Int) (s : ByteArray) (w : World)
    (hidx : 2 * idx + 1 < n) (hn : n ≤ 1048576) (hs : s.size ≤ 1048576) (hlh : lo ≤ hi) (hhs : hi ≤ s.size) (hpos : pos ≤ s.size)
    (c1 : w.cell? ⟨mb, 1, none⟩ = some (.string s)) (c2 : w.cell? ⟨mb, 2, none⟩ = some (.slice (some ⟨rb, ro, none⟩) n c)) (c7 : w.cell? ⟨mb, 7, none⟩ = some (.int .i64 steps)) (f7 : w.frozen? ⟨mb, 7, none⟩ = false)
    (i5 : w.cell? ⟨ib, 5, none⟩ = some (.int .i64 idx)) (i12 : w.cell? ⟨ib, 12, none⟩ = some (.bool true))
    (p0 : w.cell? ⟨pb, 0, none⟩ = some (.int .i64 pos)) (fp : w.frozen? ⟨pb, 0, none⟩ = false) (hmi : mb ≠ ib)
    (r0 : w.cell? ⟨rb, ro + 2 * idx, none⟩ = some (.int .i64 lo)) (r1 : w.cell? ⟨rb, ro + (2 * idx + 1), none⟩ = some (.int .i64 hi)) (B : Nat) (hB : B ≤ mb) (hBp : B ≤ pb)
    (hok : brOk s.data.toList lo hi pos true = false) :
    Calls Try.prog 22 #[.pointer (some ⟨mb, 0, none⟩), .pointer (some ⟨ib, 0, none⟩), .pointer (some ⟨pb, 0, none⟩)] w fun e w' => e = .returned (.bool false) ∧
      w'.cell? ⟨pb, 0, none⟩ = some (.int .i64 pos) ∧ w'.cell? ⟨mb, 7, none⟩ = some (.int .i64 (wrap64 (steps + (hi - lo)))) ∧ Below B w w' := by
  have b0 : (2 * (idx : Int)) < (n : Int) := by omega
  have b1 : (2 * (idx : Int) + 1) < (n : Int) := by omega
  have HB : Hid (Lib.hasSuffix (s.extract 0 pos).data.toList (s.extract lo hi).data.toList = false) := (brOk_back s lo hi pos).trans hok
  have hz : (s.extract 0 pos).size ≤ maxLen := by unfold maxLen; simp; omega
  clear hok
  go_enter Try.func22, Try.ntmps22
  go_wp2
  go_quiet (fail)
  go_wp2
  go_quiet ((go_at_call 25; exact Calls.quiet_of_same (suf25_is _ _ _ _ hz HB)))
  go_wp2
  go_ret
  refine ⟨rfl, ?_⟩
  rw [show ((hi : Int) - lo) = ((hi - lo : Nat) : Int) from by omega]
  exact fin_no w _ _ mb pb B _ _ _ c7 p0 hB

set_option maxHeartbeats 400000 in
theorem back22_back_yes (mb ib pb rb ro n c idx lo hi pos : Nat) (steps : Int) (s : ByteArray) (w : World)
    (hidx : 2 * idx + 1 < n) (hn : n ≤ 1048576) (hs : s.size ≤ 1048576) (hlh : lo ≤ hi) (hhs : hi ≤ s.size) (hpos : pos ≤ s.size) (hroom : hi - lo ≤ pos)
    (c1 : w.cell? ⟨mb, 1, none⟩ = some (.string s)) (c2 : w.cell? ⟨mb, 2, none⟩ = some (.slice (some ⟨rb, ro, none⟩) n c)) (c7 : w.cell? ⟨mb, 7, none⟩ = some (.int .i64 steps)) (f7 : w.frozen? ⟨mb, 7, none⟩ = false)
    (i5 : w.cell? ⟨ib, 5, none⟩ = some (.int .i64 idx)) (i12 : w.cell? ⟨ib, 12, none⟩ = some (.bool true))
    (p0 : w.cell? ⟨pb, 0, none⟩ = some (.int .i64 pos)) (fp : w.frozen? ⟨pb, 0, none⟩ = false) (hmi : mb ≠ ib)
    (r0 : w.cell? ⟨rb, ro + 2 * idx, none⟩ = some (.int .i64 lo)) (r1 : w.cell? ⟨rb, ro + (2 * idx + 1), none⟩ = some (.int .i64 hi)) (B : Nat) (hB : B ≤ mb) (hBp : B ≤ pb)
    (hok : brOk s.data.toList lo hi pos true = true) :
    Calls Try.prog 22 #[.pointer (some ⟨mb, 0, none⟩), .pointer (some ⟨ib, 0, none⟩), .pointer (some ⟨pb, 0, none⟩)] w fun e w' => e = .returned (.bool true) ∧
      w'.cell? ⟨pb, 0, none⟩ = some (.int .i64 ((pos : Int) - (hi - lo))) ∧ w'.cell? ⟨mb, 7, none⟩ = some (.int .i64 (wrap64 (steps + (hi - lo)))) ∧ Below B w w' := by
  have b0 : (2 * (idx : Int)) < (n : Int) := by omega
  have b1 : (2 * (idx : Int) + 1) < (n : Int) := by omega
  have HB : Hid (Lib.hasSuffix (s.extract 0 pos).data.toList (s.extract lo hi).data.toList = true) := (brOk_back s lo hi pos).trans hok
  have hz : (s.extract 0 pos).size ≤ maxLen := by unfold maxLen; simp; omega
  clear hok
  go_enter Try.func22, Try.ntmps22
  go_wp2
  go_quiet (fail)
  go_wp2
  go_quiet ((go_at_call 25; exact Calls.quiet_of_same (suf25_is _ _ _ _ hz HB)))
  go_wp2
  go_ret
  refine ⟨rfl, ?_⟩
  rw [show ((hi : Int) - lo) = ((hi - lo : Nat) : Int) from by omega]
  exact fin_yes w _ _ mb pb B _ _ _ _ c7 p0 hB hBp

set_option maxHeartbeats 400000 in
theorem back22_fore_no (mb ib pb rb ro n c idx lo hi pos : Nat) (steps : Int) (s : ByteArray) (w : World)
    (hidx : 2 * idx + 1 < n) (hn : n ≤ 1048576) (hs : s.size ≤ 1048576) (hlh : lo ≤ hi) (hhs : hi ≤ s.size) (hpos : pos ≤ s.size)
    (c1 : w.cell? ⟨mb, 1, none⟩ = some (.string s)) (c2 : w.cell? ⟨mb, 2, none⟩ = some (.slice (some ⟨rb, ro, none⟩) n c)) (c7 : w.cell? ⟨mb, 7, none⟩ = some (.int .i64 steps)) (f7 : w.frozen? ⟨mb, 7, none⟩ = false)
    (i5 : w.cell? ⟨ib, 5, none⟩ = some (.int .i64 idx)) (i12 : w.cell? ⟨ib, 12, none⟩ = some (.bool false))
    (p0 : w.cell? ⟨pb, 0, none⟩ = some (.int .i64 pos)) (fp : w.frozen? ⟨pb, 0, none⟩ = false) (hmi : mb ≠ ib)
    (r0 : w.cell? ⟨rb, ro + 2 * idx, none⟩ = some (.int .i64 lo)) (r1 : w.cell? ⟨rb, ro + (2 * idx + 1), none⟩ = some (.int .i64 hi)) (B : Nat) (hB : B ≤ mb) (hBp : B ≤ pb)
    (hok : brOk s.data.toList lo hi pos false = false) :
    Calls Try.prog 22 #[.pointer (some ⟨mb, 0, none⟩), .pointer (some ⟨ib, 0, none⟩), .pointer (some ⟨pb, 0, none⟩)] w fun e w' => e = .returned (.bool false) ∧
      w'.cell? ⟨pb, 0, none⟩ = some (.int .i64 pos) ∧ w'.cell? ⟨mb, 7, none⟩ = some (.int .i64 (wrap64 (steps + (hi - lo)))) ∧ Below B w w' := by
  have b0 : (2 * (idx : Int)) < (n : Int) := by omega
  have b1 : (2 * (idx : Int) + 1) < (n : Int) := by omega
  have HB : Hid (Lib.hasPrefix (s.extract pos s.size).data.toList (s.extract lo hi).data.toList = false) := (brOk_fore s lo hi pos).trans hok
  clear hok
  go_enter Try.func22, Try.ntmps22
  go_wp2
  go_quiet (fail)
  go_wp2
  go_quiet ((go_at_call 26; exact Calls.quiet_of_same (pre26_is _ _ _ _ HB)))
  go_wp2
  go_ret
  refine ⟨rfl, ?_⟩
  rw [show ((hi : Int) - lo) = ((hi - lo : Nat) : Int) from by omega]
  exact fin_no w _ _ mb pb B _ _ _ c7 p0 hB

set_option maxHeartbeats 400000 in
theorem back22_fore_yes (mb ib pb rb ro n c idx lo hi pos : Nat) (steps : Int) (s : ByteArray) (w : World)
    (hidx : 2 * idx + 1 < n) (hn : n ≤ 1048576) (hs : s.size ≤ 1048576) (hlh : lo ≤ hi) (hhs : hi ≤ s.size) (hpos : pos ≤ s.size) (hroom : pos + (hi - lo) ≤ s.size)
    (c1 : w.cell? ⟨mb, 1, none⟩ = some (.string s)) (c2 : w.cell? ⟨mb, 2, none⟩ = some (.slice (some ⟨rb, ro, none⟩) n c)) (c7 : w.cell? ⟨mb, 7, none⟩ = some (.int .i64 steps)) (f7 : w.frozen? ⟨mb, 7, none⟩ = false)
    (i5 : w.cell? ⟨ib, 5, none⟩ = some (.int .i64 idx)) (i12 : w.cell? ⟨ib, 12, none⟩ = some (.bool false))
    (p0 : w.cell? ⟨pb, 0, none⟩ = some (.int .i64 pos)) (fp : w.frozen? ⟨pb, 0, none⟩ = false) (hmi : mb ≠ ib)
    (r0 : w.cell? ⟨rb, ro + 2 * idx, none⟩ = some (.int .i64 lo)) (r1 : w.cell? ⟨rb, ro + (2 * idx + 1), none⟩ = some (.int .i64 hi)) (B : Nat) (hB : B ≤ mb) (hBp : B ≤ pb)
    (hok : brOk s.data.toList lo hi pos false = true) :
    Calls Try.prog 22 #[.pointer (some ⟨mb, 0, none⟩), .pointer (some ⟨ib, 0, none⟩), .pointer (some ⟨pb, 0, none⟩)] w fun e w' => e = .returned (.bool true) ∧
      w'.cell? ⟨pb, 0, none⟩ = some (.int .i64 ((pos : Int) + (hi - lo))) ∧ w'.cell? ⟨mb, 7, none⟩ = some (.int .i64 (wrap64 (steps + (hi - lo)))) ∧ Below B w w' := by
  have b0 : (2 * (idx : Int)) < (n : Int) := by omega
  have b1 : (2 * (idx : Int) + 1) < (n : Int) := by omega
  have HB : Hid (Lib.hasPrefix (s.extract pos s.size).data.toList (s.extract lo hi).data.toList = true) := (brOk_fore s lo hi pos).trans hok
  clear hok
  go_enter Try.func22, Try.ntmps22
  go_wp2
  go_quiet (fail)
  go_wp2
  go_quiet ((go_at_call 26; exact Calls.quiet_of_same (pre26_is _ _ _ _ HB)))
  go_wp2
  go_ret
  refine ⟨rfl, ?_⟩
  rw [show ((hi : Int) - lo) = ((hi - lo : Nat) : Int) from by omega]
  exact fin_yes w _ _ mb pb B _ _ _ _ c7 p0 hB hBp

end Go.Proofs.Qxb6603766a
