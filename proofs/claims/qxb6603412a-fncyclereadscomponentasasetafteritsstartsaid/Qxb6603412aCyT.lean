/-
  slices.Reverse at the package's edges, on a row of the call's own.
-/
import Derived.Test.Qxb6603412aCyS
import Derived.BigRegion
namespace Go.Proofs.Qxb6603412a
open Go.RowKit Go.Maps
set_option linter.unusedVariables false

/-- k exchanges are done. -/
def Rev (es l : List Ed) (n k : Nat) : Prop := l.length = n ∧ ∀ i, i < n → l[i]? = if i < k ∨ n ≤ i + k then es[n - 1 - i]? else es[i]?

theorem edCells_set : ∀ (l : List Ed) (i : Nat) (e : Ed), i < l.length → (((edCells l).set (i * 3) (.int .i64 e.1)).set (i * 3 + 1) (.int .i64 e.2.1)).set (i * 3 + 2) (.int .i64 e.2.2) = edCells (l.set i e)
  | x :: l, 0, e, _ => rfl
  | x :: l, i + 1, e, h => by
    have ih := edCells_set l i e (by simpa using h)
    have e1 : edCells (x :: l) = Value.int .i64 x.1 :: .int .i64 x.2.1 :: .int .i64 x.2.2 :: edCells l := rfl
    have e2 : edCells ((x :: l).set (i + 1) e) = Value.int .i64 x.1 :: .int .i64 x.2.1 :: .int .i64 x.2.2 :: edCells (l.set i e) := rfl
    rw [e1, e2, show (i + 1) * 3 = i * 3 + 1 + 1 + 1 from by omega, show i * 3 + 1 + 1 + 1 + 1 = i * 3 + 1 + 1 + 1 + 1 from rfl, ← ih]
    rfl

theorem swap_row {w : World} {B g n c : Nat} {l : List Ed} (hown : w.ownsRow B 40 3 (.slice (some ⟨g, 0, none⟩) n c) n (edCells l)) (k J : Nat) (x y : Ed) (hk : k < l.length) (hJ : J < l.length) :
    (set3 (set3 w g (k * 3) y) g (J * 3) x).ownsRow B 40 3 (.slice (some ⟨g, 0, none⟩) n c) n (edCells ((l.set k y).set J x)) := by
  have h1 := stored3 hown (k * 3) y
  rw [edCells_set l k y hk] at h1
  have h2 := stored3 h1 (J * 3) x
  rw [edCells_set _ J x (by simpa using hJ)] at h2
  exact h2

theorem Rev.next {es l : List Ed} {n k J : Nat} (h : Rev es l n k) (hJ : k + J + 1 = n) (hlt : k < J) (hn : n = es.length) : Rev es ((l.set k (l.getD J (0, 0, 0))).set J (l.getD k (0, 0, 0))) n (k + 1) := by
  obtain ⟨h1, h2⟩ := h
  have hk := h2 k (by omega)
  have hj := h2 J (by omega)
  rw [if_neg (by omega)] at hk hj
  have ek : l.getD k (0, 0, 0) = es.getD k (0, 0, 0) := by simp [List.getD_eq_getElem?_getD, hk]
  have ej : l.getD J (0, 0, 0) = es.getD J (0, 0, 0) := by simp [List.getD_eq_getElem?_getD, hj]
  refine ⟨by simp [h1], fun i hi => ?_⟩
  by_cases e1 : i = J
  · subst e1
    rw [List.getElem?_set_self (by simp; omega), if_pos (by omega), ek, show n - 1 - i = k from by omega, List.getElem?_eq_getElem (by omega)]
    simp [List.getD_eq_getElem?_getD, List.getElem?_eq_getElem (show k < es.length by omega)]
  · rw [List.getElem?_set_ne (by omega)]
    by_cases e2 : i = k
    · subst e2
      rw [List.getElem?_set_self (by omega), if_pos (by omega), ej, show n - 1 - i = J from by omega, List.getElem?_eq_getElem (by omega)]
      simp [List.getD_eq_getElem?_getD, List.getElem?_eq_getElem (show J < es.length by omega)]
    · rw [List.getElem?_set_ne (by omega), h2 i hi]
      by_cases e3 : i < k ∨ n ≤ i + k
      · rw [if_pos e3, if_pos (by omega)]
      · rw [if_neg e3, if_neg (by omega)]

theorem Rev.fin {es l : List Ed} {n k J : Nat} (h : Rev es l n k) (hJ : k + J + 1 = n) (h1 : ¬ k < J) (h2 : k ≤ J + 1) (hn : n = es.length) : l = es.reverse := by
  apply List.ext_getElem?
  intro i
  by_cases hi : i < n
  · rw [h.2 i hi, List.getElem?_reverse (by omega), ← hn]
    by_cases e : i < k ∨ n ≤ i + k
    · rw [if_pos e]
    · rw [if_neg e, show n - 1 - i = i from by omega]
  · rw [List.getElem?_eq_none (by rw [h.1]; omega), List.getElem?_eq_none (by simp; omega)]

set_option maxRecDepth 100000 in
set_option maxHeartbeats 4000000 in
theorem rev30 (B g n c : Nat) (es : List Ed) (w : World) (hB : B ≤ g) (hn0 : 1 ≤ n) (hn : n ≤ 1048578) (hl : n = es.length) (hown : w.ownsRow B 40 3 (.slice (some ⟨g, 0, none⟩) n c) n (edCells es)) :
    Calls Try.prog 30 #[.slice (some ⟨g, 0, none⟩) n c] w fun e w' => e = .returned (.tuple #[]) ∧ w'.ownsRow B 40 3 (.slice (some ⟨g, 0, none⟩) n c) n (edCells es.reverse) ∧ Below B w w' := by
  have HL := show Hid _ from hl
  clear hl
  go_enter Try.func30, Try.ntmps30
  go_wp2
  go_loopw [2, 3] (fun i j wr => ∃ (k J : Nat) (l : List Ed), Hid (k + J + 1 = n) ∧ i = .int .i64 k ∧ j = .int .i64 J ∧ Rev es l n k ∧ k ≤ J + 1 ∧ wr.ownsRow B 40 3 (.slice (some ⟨g, 0, none⟩) n c) n (edCells l) ∧ Below B w wr) (fun _ j _ => (intOf j).toNat)
  case atStart => 
    refine ⟨0, n - 1, es, by unfold Hid; omega, rfl, by go_num, ⟨HL.out.symm, fun i hi => by rw [if_neg (by omega)]⟩, by omega, hown, Below.refl _ _⟩
  case round =>
    obtain ⟨k, J, l, HJ, rfl, rfl, hrev, hkJ, hown, hbr⟩ := hrel
    have hJ := HJ.out
    by_cases hlt : k < J
    · have hk1 : k < l.length := by rw [hrev.1]; omega
      have hJ1 : J < l.length := by rw [hrev.1]; omega
      obtain ⟨a0, a1, a2⟩ := edAt_of_row hown (fun _ _ => rfl) (by rw [hrev.1]; exact Nat.le_refl _) k hk1
      obtain ⟨b0, b1, b2⟩ := edAt_of_row hown (fun _ _ => rfl) (by rw [hrev.1]; exact Nat.le_refl _) J hJ1
      rw [Nat.zero_add] at a0 a1 a2 b0 b1 b2
      have f0 := hown.frozenAt (k * 3)
      have f1 := hown.frozenAt (k * 3 + 1)
      have f2 := hown.frozenAt (k * 3 + 2)
      have h0 := hown.frozenAt (J * 3)
      have h1 := hown.frozenAt (J * 3 + 1)
      have h2 := hown.frozenAt (J * 3 + 2)
      have l1 : (k : Int) < (n : Int) := by omega
      have l2 : (J : Int) < (n : Int) := by omega
      have hsw := swap_row hown k J (l.getD k (0, 0, 0)) (l.getD J (0, 0, 0)) hk1 hJ1
      have hrn := hrev.next hJ hlt HL.out
      have HS := show Hid _ from hsw
      have HR := show Hid _ from hrn
      clear hsw hrn
      generalize l.getD k (0, 0, 0) = x at a0 a1 a2 HS HR
      generalize l.getD J (0, 0, 0) = y at b0 b1 b2 HS HR
      have hb3 := set3_below (set3_below hbr hB (k * 3) y) hB (J * 3) x
      clear hJ hk1 hJ1 hrev hown
      go_wp2
      go_region
      go_wp2
      go_roundw
      case rel => exact ⟨k + 1, J - 1, _, by unfold Hid; have := HJ.out; omega, by go_num, by go_num, HR.out, by omega, HS.out, hb3.drew⟩
      case measure => simp [intOf]; omega
    · have e := hrev.fin hJ hlt hkJ HL.out
      subst e
      clear hJ hrev
      go_wp2
      go_end0
      exact ⟨rfl, hown, hbr⟩
end Go.Proofs.Qxb6603412a
