/-
  FnBackReferenceMovesByItsCapture: the walk, behind the early returns.
-/
import Derived.Test.Qxb6603766aBrE
namespace Go.Proofs.Qxb6603766a
open Go.RowKit
set_option linter.unusedVariables false

theorem zz16_neg (s : ByteArray) (rb n c idx pos : Nat) (steps lo hi : Int) (back : Bool) (w : World)
    (hidx : 2 * idx + 1 < n) (hn : n ≤ 1048576) (hs : s.size ≤ 1048576) (hpos : pos ≤ s.size) (hb : rb < w.heap.size)
    (r0 : w.cell? ⟨rb, 0 + 2 * idx, none⟩ = some (.int .i64 lo)) (r1 : w.cell? ⟨rb, 0 + (2 * idx + 1), none⟩ = some (.int .i64 hi)) (hlo : lo < 0) :
    Calls Try.prog 16 #[.string s, .slice (some ⟨rb, 0, none⟩) n c, .int .i64 idx, .bool back, .int .i64 pos, .int .i64 steps] w fun e w' =>
      e = .returned (.tuple #[.bool true, .int .i64 pos, .int .i64 steps]) ∧ Below w.heap.size w w' := by
  have h := zz16 s rb 0 n c idx pos steps lo hi back w hidx hn hs (by omega) hpos hb r0 r1
  have e1 : rOk s.data.toList lo hi pos back = true := by simp [rOk, hlo]
  have e2 : rPos s.data.toList lo hi pos back = pos := by simp [rPos, hlo]
  have e3 : rSteps steps lo hi = steps := by simp [rSteps, hlo]
  rwa [e1, e2, e3] at h

theorem zz16_no (s : ByteArray) (rb n c idx pos : Nat) (steps : Int) (lo hi : Nat) (back : Bool) (w : World)
    (hidx : 2 * idx + 1 < n) (hn : n ≤ 1048576) (hs : s.size ≤ 1048576) (hpos : pos ≤ s.size) (hb : rb < w.heap.size) (h1 : lo ≤ hi) (h2 : hi ≤ s.size)
    (r0 : w.cell? ⟨rb, 0 + 2 * idx, none⟩ = some (.int .i64 lo)) (r1 : w.cell? ⟨rb, 0 + (2 * idx + 1), none⟩ = some (.int .i64 hi)) (hok : brOk s.data.toList lo hi pos back = false) :
    Calls Try.prog 16 #[.string s, .slice (some ⟨rb, 0, none⟩) n c, .int .i64 idx, .bool back, .int .i64 pos, .int .i64 steps] w fun e w' =>
      e = .returned (.tuple #[.bool false, .int .i64 pos, .int .i64 (wrap64 (steps + ((hi : Int) - lo)))]) ∧ Below w.heap.size w w' := by
  have h := zz16 s rb 0 n c idx pos steps lo hi back w hidx hn hs (by omega) hpos hb r0 r1
  have hlo : ¬ (lo : Int) < 0 := by omega
  have e1 : rOk s.data.toList lo hi pos back = false := by simp [rOk, hlo, hok]
  have e2 : rPos s.data.toList lo hi pos back = pos := by simp [rPos, hlo, hok]
  have e3 : rSteps steps lo hi = wrap64 (steps + ((hi : Int) - lo)) := by simp [rSteps, hlo]
  rwa [e1, e2, e3] at h

theorem zz16_back (s : ByteArray) (rb n c idx pos : Nat) (steps : Int) (lo hi : Nat) (w : World)
    (hidx : 2 * idx + 1 < n) (hn : n ≤ 1048576) (hs : s.size ≤ 1048576) (hpos : pos ≤ s.size) (hb : rb < w.heap.size) (h1 : lo ≤ hi) (h2 : hi ≤ s.size)
    (r0 : w.cell? ⟨rb, 0 + 2 * idx, none⟩ = some (.int .i64 lo)) (r1 : w.cell? ⟨rb, 0 + (2 * idx + 1), none⟩ = some (.int .i64 hi)) (hok : brOk s.data.toList lo hi pos true = true) :
    Calls Try.prog 16 #[.string s, .slice (some ⟨rb, 0, none⟩) n c, .int .i64 idx, .bool true, .int .i64 pos, .int .i64 steps] w fun e w' =>
      e = .returned (.tuple #[.bool true, .int .i64 ((pos : Int) - ((hi : Int) - lo)), .int .i64 (wrap64 (steps + ((hi : Int) - lo)))]) ∧ Below w.heap.size w w' := by
  have h := zz16 s rb 0 n c idx pos steps lo hi true w hidx hn hs (by omega) hpos hb r0 r1
  have hlo : ¬ (lo : Int) < 0 := by omega
  have e1 : rOk s.data.toList lo hi pos true = true := by simp [rOk, hlo, hok]
  have e2 : rPos s.data.toList lo hi pos true = (pos : Int) - ((hi : Int) - lo) := by simp [rPos, hlo, hok]
  have e3 : rSteps steps lo hi = wrap64 (steps + ((hi : Int) - lo)) := by simp [rSteps, hlo]
  rwa [e1, e2, e3] at h

theorem zz16_fore (s : ByteArray) (rb n c idx pos : Nat) (steps : Int) (lo hi : Nat) (w : World)
    (hidx : 2 * idx + 1 < n) (hn : n ≤ 1048576) (hs : s.size ≤ 1048576) (hpos : pos ≤ s.size) (hb : rb < w.heap.size) (h1 : lo ≤ hi) (h2 : hi ≤ s.size)
    (r0 : w.cell? ⟨rb, 0 + 2 * idx, none⟩ = some (.int .i64 lo)) (r1 : w.cell? ⟨rb, 0 + (2 * idx + 1), none⟩ = some (.int .i64 hi)) (hok : brOk s.data.toList lo hi pos false = true) :
    Calls Try.prog 16 #[.string s, .slice (some ⟨rb, 0, none⟩) n c, .int .i64 idx, .bool false, .int .i64 pos, .int .i64 steps] w fun e w' =>
      e = .returned (.tuple #[.bool true, .int .i64 ((pos : Int) + ((hi : Int) - lo)), .int .i64 (wrap64 (steps + ((hi : Int) - lo)))]) ∧ Below w.heap.size w w' := by
  have h := zz16 s rb 0 n c idx pos steps lo hi false w hidx hn hs (by omega) hpos hb r0 r1
  have hlo : ¬ (lo : Int) < 0 := by omega
  have e1 : rOk s.data.toList lo hi pos false = true := by simp [rOk, hlo, hok]
  have e2 : rPos s.data.toList lo hi pos false = (pos : Int) + ((hi : Int) - lo) := by simp [rPos, hlo, hok]
  have e3 : rSteps steps lo hi = wrap64 (steps + ((hi : Int) - lo)) := by simp [rSteps, hlo]
  rwa [e1, e2, e3] at h

/-- The registers of the clone. -/
theorem regs_at (w1 : World) (g n i : Nat) (zs : List Int) (hl : n ≤ zs.length) (hi : i < n)
    (hown : w1.ownsRow g 3 1 (.slice (some ⟨g, 0, none⟩) n n) n ((zs.take n).map (Value.int .i64))) : w1.cell? ⟨g, 0 + i, none⟩ = some (.int .i64 (zs.getD i 0)) := by
  rw [Nat.zero_add, hown.cellAt i (by omega), List.getElem?_map, List.getElem?_take_of_lt hi, List.getElem?_eq_getElem (by omega)]
  simp [List.getD_eq_getElem?_getD, List.getElem?_eq_getElem (show i < zs.length by omega)]

theorem own_lt (w1 : World) (g n : Nat) (xs : List Value) (hown : w1.ownsRow g 3 1 (.slice (some ⟨g, 0, none⟩) n n) n xs) : g < w1.heap.size := (hown.lt g rfl).2

section
variable (s : ByteArray) (b off n c idx pos : Nat) (bk : Bool) (z : Int) (zs : List Int) (w : World)

set_option maxHeartbeats 400000 in
theorem main5_neg (hs : s.size ≤ maxLen) (hn : n ≤ maxLen) (g1 : s.size + n ≤ 1048576) (g2 : n ≤ 131072) (g3 : s.size + 8 * n ≤ 1048576) (g5 : 2 * idx + 1 < n) (g7 : pos ≤ s.size) (hb : b < w.heap.size) (hl : n ≤ zs.length)
    (hc : ∀ i, i < n → w.cell? ⟨b, off + i, none⟩ = some (.int .i64 (zs.getD i 0))) (lo hi : Int) (elo : Hid (zs.getD (2 * idx) 0 = lo)) (ehi : Hid (zs.getD (2 * idx + 1) 0 = hi)) (hlo : lo < 0) :
    Calls Try.prog 5 #[.string s, .slice (some ⟨b, off, none⟩) n c, .int .i64 idx, .bool bk, .int .i64 pos, .int .i64 z] w fun e w' => e = .returned (.bool true) ∧ Below w.heap.size w w' := by
  have r0 : w.cell? ⟨b, off + 2 * idx, none⟩ = some (.int .i64 lo) := by rw [hc (2 * idx) (by omega), elo.out]
  have r1 : w.cell? ⟨b, off + (2 * idx + 1), none⟩ = some (.int .i64 hi) := by rw [hc (2 * idx + 1) (by omega), ehi.out]
  go_enter Try.func5, Try.ntmps5
  go_wp2_with (go_at_call 14; refine (bytes14_yes _ _ _ _ _ _ _ _ _ hs hn g1).mono ?_; rintro e w' ⟨rfl, rfl⟩)
  refine (clone15_some b off n c zs _ (by omega) hb hl hc).mono ?_
  rintro e w1 ⟨rfl, hown, hbel⟩
  have q0 := regs_at w1 _ n (2 * idx) zs hl (by omega) hown
  have q1 := regs_at w1 _ n (2 * idx + 1) zs hl (by omega) hown
  rw [elo.out] at q0
  rw [ehi.out] at q1
  have hlt := own_lt _ _ _ _ hown
  clear hown
  go_wp2_with fail
  refine (zz16_neg s _ n n idx pos z lo hi bk _ g5 (by omega) (by omega) g7 hlt q0 q1 hlo).mono ?_
  rintro e w2 ⟨rfl, hbel2⟩
  go_wp2
  go_ret
  exact ⟨rfl, hbel.trans (hbel2.mono (by omega))⟩
end
end Go.Proofs.Qxb6603766a
