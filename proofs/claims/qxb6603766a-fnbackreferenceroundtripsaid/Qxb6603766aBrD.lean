/-
  ZZBackReference: a machine, an instruction and a position are laid, backReference is called, the answer is handed on.
-/
import Derived.Test.Qxb6603766aBrC
namespace Go.Proofs.Qxb6603766a
open Go.RowKit
set_option linter.unusedVariables false

/-- The answer, the position and the steps behind a back reference, for whatever registers. -/
def rOk (s : List UInt8) (lo hi : Int) (pos : Nat) (back : Bool) : Bool := if lo < 0 then true else brOk s lo.toNat hi.toNat pos back
def rPos (s : List UInt8) (lo hi : Int) (pos : Nat) (back : Bool) : Int :=
  if lo < 0 then pos else if brOk s lo.toNat hi.toNat pos back then (if back then (pos : Int) - (hi - lo) else (pos : Int) + (hi - lo)) else pos
def rSteps (steps lo hi : Int) : Int := if lo < 0 then steps else wrap64 (steps + (hi - lo))

theorem room_back (s : List UInt8) (lo hi pos : Nat) (hlh : lo ≤ hi) (hh : hi ≤ s.length) (h : brOk s lo hi pos true = true) : hi - lo ≤ pos := by
  simp only [brOk, if_true, Lib.hasSuffix, List.isSuffixOf_iff_suffix] at h
  have := h.length_le
  simp only [List.length_take, List.length_drop] at this
  omega

theorem room_fore (s : List UInt8) (lo hi pos : Nat) (hlh : lo ≤ hi) (hh : hi ≤ s.length) (hp : pos ≤ s.length) (h : brOk s lo hi pos false = true) : pos + (hi - lo) ≤ s.length := by
  simp [brOk, Lib.hasPrefix] at h
  have := h.length_le
  simp only [List.length_take, List.length_drop] at this
  omega

theorem back22 (mb ib pb rb ro n c idx pos : Nat) (lo hi steps : Int) (s : ByteArray) (back : Bool) (w : World)
    (hidx : 2 * idx + 1 < n) (hn : n ≤ 1048576) (hs : s.size ≤ 1048576) (hlh : 0 ≤ lo → lo ≤ hi ∧ hi ≤ s.size) (hpos : pos ≤ s.size)
    (c1 : w.cell? ⟨mb, 1, none⟩ = some (.string s)) (c2 : w.cell? ⟨mb, 2, none⟩ = some (.slice (some ⟨rb, ro, none⟩) n c)) (c7 : w.cell? ⟨mb, 7, none⟩ = some (.int .i64 steps)) (f7 : w.frozen? ⟨mb, 7, none⟩ = false)
    (i5 : w.cell? ⟨ib, 5, none⟩ = some (.int .i64 idx)) (i12 : w.cell? ⟨ib, 12, none⟩ = some (.bool back))
    (p0 : w.cell? ⟨pb, 0, none⟩ = some (.int .i64 pos)) (fp : w.frozen? ⟨pb, 0, none⟩ = false) (hmi : mb ≠ ib)
    (r0 : w.cell? ⟨rb, ro + 2 * idx, none⟩ = some (.int .i64 lo)) (r1 : w.cell? ⟨rb, ro + (2 * idx + 1), none⟩ = some (.int .i64 hi)) (B : Nat) (hB : B ≤ mb) (hBp : B ≤ pb) :
    Calls Try.prog 22 #[.pointer (some ⟨mb, 0, none⟩), .pointer (some ⟨ib, 0, none⟩), .pointer (some ⟨pb, 0, none⟩)] w fun e w' => e = .returned (.bool (rOk s.data.toList lo hi pos back)) ∧
      w'.cell? ⟨pb, 0, none⟩ = some (.int .i64 (rPos s.data.toList lo hi pos back)) ∧ w'.cell? ⟨mb, 7, none⟩ = some (.int .i64 (rSteps steps lo hi)) ∧ Below B w w' := by
  by_cases hlo : lo < 0
  · refine (back22_neg mb ib pb rb ro n c idx lo hi w hidx hn c2 i5 r0 r1 hlo).mono ?_
    rintro e w' ⟨rfl, nq, rfl⟩
    refine ⟨by simp [rOk, hlo], ?_, ?_, below_drewN (Below.refl _ _) nq⟩
    · rw [World.cell?_drewN, p0]; simp [rPos, hlo]
    · rw [World.cell?_drewN, c7]; simp [rSteps, hlo]
  · obtain ⟨h1, h2⟩ := hlh (by omega)
    obtain ⟨l, rfl⟩ := Int.eq_ofNat_of_zero_le (show 0 ≤ lo by omega)
    obtain ⟨h, rfl⟩ := Int.eq_ofNat_of_zero_le (show 0 ≤ hi by omega)
    have h1' : l ≤ h := by omega
    have h2' : h ≤ s.size := by omega
    have hsz := Lib.size_eq s
    have e3 : rSteps steps l h = wrap64 (steps + ((h : Int) - l)) := by simp [rSteps, hlo]
    cases hok : brOk s.data.toList l h pos back
    · have e1 : rOk s.data.toList l h pos back = false := by simp [rOk, hlo, hok]
      have e2 : rPos s.data.toList l h pos back = pos := by simp [rPos, hlo, hok]
      rw [e1, e2, e3]
      cases back
      · exact back22_fore_no mb ib pb rb ro n c idx l h pos steps s w hidx hn hs h1' h2' hpos c1 c2 c7 f7 i5 i12 p0 fp hmi r0 r1 B hB hBp hok
      · exact back22_back_no mb ib pb rb ro n c idx l h pos steps s w hidx hn hs h1' h2' hpos c1 c2 c7 f7 i5 i12 p0 fp hmi r0 r1 B hB hBp hok
    · have e1 : rOk s.data.toList l h pos back = true := by simp [rOk, hlo, hok]
      rw [e1, e3]
      cases back
      · have e2 : rPos s.data.toList l h pos false = (pos : Int) + ((h : Int) - l) := by simp [rPos, hlo, hok]
        rw [e2]
        exact back22_fore_yes mb ib pb rb ro n c idx l h pos steps s w hidx hn hs h1' h2' hpos (by rw [hsz]; exact room_fore _ l h pos h1' (by omega) (by omega) hok) c1 c2 c7 f7 i5 i12 p0 fp hmi r0 r1 B hB hBp hok
      · have e2 : rPos s.data.toList l h pos true = (pos : Int) - ((h : Int) - l) := by simp [rPos, hlo, hok]
        rw [e2]
        exact back22_back_yes mb ib pb rb ro n c idx l h pos steps s w hidx hn hs h1' h2' hpos (room_back _ l h pos h1' (by omega) hok) c1 c2 c7 f7 i5 i12 p0 fp hmi r0 r1 B hB hBp hok

set_option maxHeartbeats 400000 in
theorem zz16 (s : ByteArray) (rb ro n c idx pos : Nat) (steps lo hi : Int) (back : Bool) (w : World)
    (hidx : 2 * idx + 1 < n) (hn : n ≤ 1048576) (hs : s.size ≤ 1048576) (hlh : 0 ≤ lo → lo ≤ hi ∧ hi ≤ s.size) (hpos : pos ≤ s.size) (hb : rb < w.heap.size)
    (r0 : w.cell? ⟨rb, ro + 2 * idx, none⟩ = some (.int .i64 lo)) (r1 : w.cell? ⟨rb, ro + (2 * idx + 1), none⟩ = some (.int .i64 hi)) :
    Calls Try.prog 16 #[.string s, .slice (some ⟨rb, ro, none⟩) n c, .int .i64 idx, .bool back, .int .i64 pos, .int .i64 steps] w fun e w' =>
      e = .returned (.tuple #[.bool (rOk s.data.toList lo hi pos back), .int .i64 (rPos s.data.toList lo hi pos back), .int .i64 (rSteps steps lo hi)]) ∧ Below w.heap.size w w' := by
  have hold : ∀ o1 o2 o3 k, (((w.alloc o1).alloc o2).alloc o3).cell? ⟨rb, k, none⟩ = w.cell? ⟨rb, k, none⟩ := fun o1 o2 o3 k =>
    ((((Below.refl w.heap.size w).alloc (Nat.le_refl _) o1).alloc (by simp) o2).alloc (by simp; omega) o3).cell (p := ⟨rb, k, none⟩) hb
  go_enter Try.func16, Try.ntmps16
  go_wp2_with fail
  refine (back22 w.heap.size (w.heap.size + 1) (w.heap.size + 1 + 1) rb ro n c idx pos lo hi steps s back _ hidx hn hs hlh hpos (by go_simp) (by go_simp) (by go_simp) (by go_simp) (by go_simp) (by go_simp) (by go_simp) (by go_simp) (by omega) (by rw [hold]; exact r0) (by rw [hold]; exact r1) w.heap.size (by omega) (by omega)).mono ?_
  rintro e w1 ⟨rfl, hp, h7, hbel⟩
  go_wp2
  go_quiet (fail)
  go_wp2
  go_ret3
  exact ⟨rfl, below_drewN (((((Below.refl _ _).alloc (Nat.le_refl _) _).alloc (by simp) _).alloc (by simp; omega) _).trans hbel) _⟩
end Go.Proofs.Qxb6603766a
