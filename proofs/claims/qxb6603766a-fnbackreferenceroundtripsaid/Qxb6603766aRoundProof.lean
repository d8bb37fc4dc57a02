/-
  'Rows.FnBackReferenceRoundTripSaid': the frame as the skeleton tool wrote it; the walk out of the parts.
-/
import Derived.Test.Qxb6603766aRows
import Derived.Test.Qxb6603766aRtB
import Derived.WalkKit
import Derived.ProofKit
import Derived.OpenShut
import Derived.ShutString
import Derived.ChangeOld
import Derived.Below
namespace Go.Proofs.Qxb6603766a.fnBackReferenceRoundTrip
open Go.ChangeShapes Go.WideShapes Go.ChangeAt Go.RowKit
open Go.ChangeMaps (open_string shut_string)
set_option linter.unusedVariables false

theorem own : ownKnob Try.prog.godebug = none := by kernel_rfl
theorem laidOut : laidOutB Try.prog = true := by kernel_rfl

set_option maxRecDepth 100000 in
set_option maxHeartbeats 800000 in
theorem main6_out (s : ByteArray) (b off n c idx pos : Nat) (z : Int) (w : World) (hs : s.size ≤ maxLen) (hn : n ≤ maxLen) (g1 : s.size + n ≤ 1048576) (g2 : n ≤ 131072) (g3 : s.size + 8 * n ≤ 1048576) (g5 : 2 * idx + 1 < n) (g7 : pos ≤ s.size)
    (lo hi : Int) (r0 : w.cell? ⟨b, off + 2 * idx, none⟩ = some (.int .i64 lo)) (r1 : w.cell? ⟨b, off + (2 * idx + 1), none⟩ = some (.int .i64 hi)) (hout : ¬ (0 ≤ lo ∧ lo ≤ hi ∧ hi ≤ s.size)) :
    Calls Try.prog 6 #[.string s, .slice (some ⟨b, off, none⟩) n c, .int .i64 idx, .int .i64 pos, .int .i64 z] w fun e w' => e = .returned (.bool true) ∧ Below w.heap.size w w' := by
  by_cases h0 : 0 ≤ lo
  · by_cases h1 : lo ≤ hi
    · have h2 : ¬ hi ≤ s.size := fun h => hout ⟨h0, h1, h⟩
      clear hout
      go_enter Try.func6, Try.ntmps6
      go_wp2_with (go_at_call 17; refine (bytes17_yes _ _ _ _ _ _ _ _ hs hn g1).mono ?_; rintro e w ⟨rfl, rfl⟩)
      go_ret
      exact ⟨rfl, Below.refl _ _⟩
    · clear hout
      go_enter Try.func6, Try.ntmps6
      go_wp2_with (go_at_call 17; refine (bytes17_yes _ _ _ _ _ _ _ _ hs hn g1).mono ?_; rintro e w ⟨rfl, rfl⟩)
      go_ret
      exact ⟨rfl, Below.refl _ _⟩
  · clear hout
    go_enter Try.func6, Try.ntmps6
    go_wp2_with (go_at_call 17; refine (bytes17_yes _ _ _ _ _ _ _ _ hs hn g1).mono ?_; rintro e w ⟨rfl, rfl⟩)
    go_ret
    exact ⟨rfl, Below.refl _ _⟩

/-! ### THE WALK: out of the parts of RtA, RtB. -/
theorem walk (a0 : ByteArray) (a1 : Option Addr) (len1 cap1 : Nat) (z1 : List Int) (a2 : Int) (a3 : Int) (a4 : Int) (w : World) (w0 : a0.size ≤ maxLen) (w1 : IsRow .i64 w a1 len1 cap1 z1) (w2 : (Lit.int .i64 a2).wf = true) (w3 : (Lit.int .i64 a3).wf = true) (w4 : (Lit.int .i64 a4).wf = true) :
    Calls Try.prog 6 #[.string a0, .slice a1 len1 cap1, .int .i64 a2, .int .i64 a3, .int .i64 a4] w fun e w' => e = .returned (.bool true) ∧ Below w.heap.size w w' := by
  by_cases h : a0.size + len1 ≤ 1048576 ∧ len1 ≤ 131072 ∧ a0.size + 8 * len1 ≤ 1048576 ∧ 0 ≤ a2 ∧ a2 < len1 / 2 ∧ 0 ≤ a3 ∧ a3 ≤ a0.size
  · obtain ⟨g1, g2, g3, g4, g5, g6, g7⟩ := h
    have hn := w1.len_le
    obtain ⟨idx, rfl⟩ := Int.eq_ofNat_of_zero_le g4
    obtain ⟨pos, rfl⟩ := Int.eq_ofNat_of_zero_le g6
    have g5' : 2 * idx + 1 < len1 := by omega
    have g7' : pos ≤ a0.size := by omega
    rcases w1 with ⟨_, rfl, _, _⟩ | ⟨⟨b, off, spot⟩, rfl, hl, _, hz, hcell, _⟩
    · omega
    · have hspot : spot = none := by simpa [Addr.add] using World.cell?_spot (hcell 0 (by omega))
      subst hspot
      have hb : b < w.heap.size := by simpa [Addr.add] using World.block_lt_of_cell? w _ (hcell 0 (by omega))
      have hc : ∀ i, i < len1 → w.cell? ⟨b, off + i, none⟩ = some (.int .i64 (z1.getD i 0)) := fun i hi => by rw [← add_plain]; exact hcell i (by omega)
      have hlz : len1 ≤ z1.length := by omega
      by_cases hv : 0 ≤ z1.getD (2 * idx) 0 ∧ z1.getD (2 * idx) 0 ≤ z1.getD (2 * idx + 1) 0 ∧ z1.getD (2 * idx + 1) 0 ≤ a0.size
      · obtain ⟨lo, elo⟩ := Int.eq_ofNat_of_zero_le (show 0 ≤ z1.getD (2 * idx) 0 by omega)
        obtain ⟨hi, ehi⟩ := Int.eq_ofNat_of_zero_le (show 0 ≤ z1.getD (2 * idx + 1) 0 by omega)
        have h1 : lo ≤ hi := by omega
        have h2 : hi ≤ a0.size := by omega
        by_cases hroom : pos + (hi - lo) ≤ a0.size
        · cases okF : brOk a0.data.toList lo hi pos false
          · cases okB2 : brOk a0.data.toList lo hi pos true
            · exact rt_d a0 b off len1 cap1 idx pos a4 z1 w w0 hn g1 g2 g3 g5' g7' hb hlz hc lo hi elo ehi h1 h2 hroom okF okB2
            · exact rt_c a0 b off len1 cap1 idx pos a4 z1 w w0 hn g1 g2 g3 g5' g7' hb hlz hc lo hi elo ehi h1 h2 hroom okF okB2
          · cases okB2 : brOk a0.data.toList lo hi pos true
            · exact rt_b a0 b off len1 cap1 idx pos a4 z1 w w0 hn g1 g2 g3 g5' g7' hb hlz hc lo hi elo ehi h1 h2 hroom okF okB2
            · exact rt_a a0 b off len1 cap1 idx pos a4 z1 w w0 hn g1 g2 g3 g5' g7' hb hlz hc lo hi elo ehi h1 h2 hroom okF okB2
        · cases okB2 : brOk a0.data.toList lo hi pos true
          · exact rt_f a0 b off len1 cap1 idx pos a4 z1 w w0 hn g1 g2 g3 g5' g7' hb hlz hc lo hi elo ehi h1 h2 hroom okB2
          · exact rt_e a0 b off len1 cap1 idx pos a4 z1 w w0 hn g1 g2 g3 g5' g7' hb hlz hc lo hi elo ehi h1 h2 hroom okB2
      · exact main6_out a0 b off len1 cap1 idx pos a4 w w0 hn g1 g2 g3 g5' g7' _ _ (hc _ (by omega)) (hc _ (by omega)) hv
  · exact early6 a0 a1 len1 cap1 a2 a3 a4 w w0 w1.len_le h

/-! ### THE ROW's STEP: WRITTEN OUT: LEAVE IT -/
set_option maxRecDepth 100000 in
theorem lifted (os : Os) (started : os.Started) (H : Type) (enc : TypeId × Value → H) :
    ReturnsInHanded {} Try.checked os 6 .any (Rows.fnBackReferenceRoundTripSpec.pre6 enc Try.prog Try.f6 Rows.fnBackReferenceRoundTripRow.domain false) (Rows.fnBackReferenceRoundTripSpec.post enc Try.prog Try.f6 false true false false) := by
  refine returnsInHanded_of_change (C := Try.checked) own started (by kernel_rfl) Try.func6
    (ChangeSpec.witness6 (enc := enc) (C := Try.checked) false ⟨#[], #[.string ByteArray.empty, .slice none 0 0, .int .i64 0, .int .i64 0, .int .i64 0], []⟩ 8 (by kernel_rfl) (by kernel_rfl) (by kernel_rfl) (by kernel_rfl)) ?_
  intro W base args ds gs before hval0 hW hcnd _
  have hval : ∀ (j : Nat) t v, Try.f6.params[j]? = some t → args[j]? = some v → Value.okWide Try.prog W .any base t v := hval0
  have hW' := hW
  obtain ⟨p, q, hA0, hV, rfl, hfz, hnd⟩ := hW
  have hA : DataW.TrodAll enc Try.prog W 0 (fun _ => true) true Try.f6.params.toList args.toList ds p := hA0
  rw [Try.params6] at hA hval
  obtain ⟨v0, vs0, d0, ds0, p0, q0, hargs, rfl, rfl, h0, r0⟩ := trodAll_cons hA
  obtain ⟨v1, vs1, d1, ds1, p1, q1, rfl, rfl, rfl, h1, r1⟩ := trodAll_cons r0
  obtain ⟨v2, vs2, d2, ds2, p2, q2, rfl, rfl, rfl, h2, r2⟩ := trodAll_cons r1
  obtain ⟨v3, vs3, d3, ds3, p3, q3, rfl, rfl, rfl, h3, r3⟩ := trodAll_cons r2
  obtain ⟨v4, vs4, d4, ds4, p4, q4, rfl, rfl, rfl, h4, r4⟩ := trodAll_cons r3
  obtain ⟨rfl, rfl, rfl⟩ := trodAll_nil r4
  obtain rfl : args = #[v0, v1, v2, v3, v4] := by cases args; simp_all
  obtain ⟨rfl, rfl⟩ := trodVars_none hV
  obtain ⟨a0, rfl, rfl, rfl, w0⟩ := open_string Try.underlying9 (hval 0 9 v0 rfl rfl) h0
  obtain ⟨a1, len1, cap1, rfl⟩ := okWide_slice Try.underlying29 (hval 1 29 v1 rfl rfl)
  have k1 := h1
  have lt1 : ∀ x ∈ p1, x.block < W.heap.size := by obtain ⟨m, hm⟩ := k1; exact DataW.trod_lt m _ _ _ hm
  obtain ⟨z1, w1⟩ : ∃ zs, IsRow .i64 W a1 len1 cap1 zs := by
    obtain ⟨fuel, hf⟩ := h1
    rcases open_ints Try.underlying29 Try.underlying3 (by kernel_rfl) hf with ⟨hcs, _⟩ | ⟨x, l, c, zs, hcs, _, hl, hm, hz, _, hcell, hwz⟩
    · simp [Value.cells] at hcs
      obtain ⟨rfl, rfl, rfl⟩ := hcs
      exact ⟨[], .inl ⟨rfl, rfl, rfl, rfl⟩⟩
    · simp [Value.cells] at hcs
      obtain ⟨rfl, rfl, rfl⟩ := hcs
      exact ⟨zs, .inr ⟨_, rfl, hl, hm, by simpa using hz, hcell, hwz⟩⟩
  obtain ⟨a2, rfl, rfl, rfl, w2⟩ := open_int Try.underlying3 (hval 2 3 v2 rfl rfl) h2
  obtain ⟨a3, rfl, rfl, rfl, w3⟩ := open_int Try.underlying3 (hval 3 3 v3 rfl rfl) h3
  obtain ⟨a4, rfl, rfl, rfl, w4⟩ := open_int Try.underlying3 (hval 4 3 v4 rfl rfl) h4
  clear hA0 hval0
  refine (walk a0 a1 len1 cap1 z1 a2 a3 a4 W w0 w1 w2 w3 w4).mono fun e W' ⟨he, bel⟩ => ?_
  subst he
  exact ⟨_, rfl, _, _, _, [], _, [], hW', trodAll_mk1 (shut_bool Try.underlying4 _), (trodAll_cons_mk (shut_string Try.underlying9 w0) (trodAll_cons_mk (Below.trod laidOut (by kernel_rfl) (of_decide_eq_true (by kernel_rfl)) k1 bel lt1) (trodAll_cons_mk (shut_int Try.underlying3 w2) (trodAll_cons_mk (shut_int Try.underlying3 w3) (trodAll_cons_mk (shut_int Try.underlying3 w4) trodAll_mk0))))), rfl, bel.frame _, fun h => by cases h⟩

theorem over : Rows.fnBackReferenceRoundTripRow.holds Try.pinned (OpenSpec.ofChange Rows.fnBackReferenceRoundTripSpec) :=
  OpenClaim.holds_of_wide 6 Try.f6 rfl rfl rfl rfl rfl rfl rfl ⟨rfl, rfl, rfl, rfl, rfl⟩ rfl rfl rfl rfl rfl (by kernel_rfl) Try.func6 (by kernel_rfl)
    (of_decide_eq_true (by kernel_rfl)) (by unfold Func.isWrapper; first | (rw [if_pos (by decide +kernel)]; kernel_rfl) | (rw [if_neg (by decide +kernel)]; exact ⟨rfl, rfl⟩))
    (fun os started H enc _ => lifted os started H enc)

/-- ████ THE STATEMENT ████ -/
theorem proved : Rows.FnBackReferenceRoundTripSaid := over
end Go.Proofs.Qxb6603766a.fnBackReferenceRoundTrip
