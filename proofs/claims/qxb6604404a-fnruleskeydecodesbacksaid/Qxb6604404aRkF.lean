/-
  FnRulesKeyDecodesBack: the walk.
-/
import Derived.Test.Qxb6604404aRkE
namespace Go.Proofs.Qxb6604404a
open Go.RowKit
set_option linter.unusedVariables false

theorem key_at (za : List Int) (k : Nat) (hk : k < za.length) : (key za).drop (key (za.take k)).length = Lib.uvarint (u64n (za.getD k 0)) ++ key (za.drop (k + 1)) := by
  have h1 : za = za.take k ++ (za.getD k 0 :: za.drop (k + 1)) := by
    have h2 := List.take_append_drop k za
    rw [List.drop_eq_getElem_cons hk] at h2
    have h3 : za.getD k 0 = za[k] := by simp [List.getD_eq_getElem?_getD, List.getElem?_eq_getElem hk]
    rw [h3]
    exact h2.symm
  have h4 : key za = key (za.take k) ++ (Lib.uvarint (u64n (za.getD k 0)) ++ key (za.drop (k + 1))) := by
    conv => lhs; rw [h1]
    rw [key_append]
    rfl
  rw [h4, List.drop_left]

theorem key_len_next (za : List Int) (k : Nat) (hk : k < za.length) : (key (za.take (k + 1))).length = (key (za.take k)).length + (Lib.uvarint (u64n (za.getD k 0))).length := by
  rw [key_take_next za k hk, List.length_append]

set_option maxRecDepth 100000 in
set_option maxHeartbeats 1600000 in
theorem law5_main (a : Option Addr) (n c : Nat) (za : List Int) (w : World) (g2 : n ≤ 131072)
    (hc0 : a = none → n = 0 ∧ c = 0) (h : IsInts w a n za) :
    Calls Try.prog 5 #[.slice a n c] w fun e w' => e = .returned (.bool true) ∧ Below w.heap.size w w' := by
  have HC := show Hid _ from hc0
  clear hc0
  go_enter Try.func5, Try.ntmps5
  go_wp2_with (go_at_call 20; refine (bytes20_yes _ _ _ _ (by omega)).mono ?_; rintro e w ⟨rfl, rfl⟩)
  refine (cloneAny a n c za _ (by omega) HC.out h).mono ?_
  rintro e w1 ⟨x, d, rfl, h1, hb1⟩
  clear h
  go_wp2_with fail
  refine (keyAny x n d za _ (by omega) h1).mono ?_
  rintro e w2 ⟨S, rfl, hS, hS1, hS2, hb2⟩
  have h2 := h1.later hb2
  have HS := show Hid _ from hS
  have hSL : Hid (S.data.toList.length = S.size) := (Lib.size_eq S).symm
  clear h1 hS
  have hbel : Below w.heap.size w w2 := hb1.trans (hb2.mono hb1.size)
  clear hb1 hb2
  go_wp2
  go_loop [4, 5] (fun p j => ∃ (k P : Nat), k ≤ n ∧ j = .int .i64 k ∧ p = .int .i64 P ∧ P ≤ S.size ∧ Hid (P = (key (za.take k)).length)) (fun _ j => n - (intOf j).toNat)
  case atStart => exact ⟨0, 0, Nat.zero_le _, rfl, rfl, Nat.zero_le _, rfl⟩
  case round =>
    obtain ⟨k, P, hk, rfl, rfl, hP, HP⟩ := hrel
    by_cases hlt : k < n
    · obtain ⟨b, off, hx, hb, hc⟩ := h2.some_of_pos (by omega)
      have hlz : k < za.length := by rw [h2.1]; exact hlt
      have c1 := hc k hlt
      have hat := key_at za k hlz
      rw [← HP.out, ← HS.out] at hat
      have HN : Hid ((key (za.take (k + 1))).length = P + (Lib.uvarint (u64n (za.getD k 0))).length) := by rw [HP.out]; exact key_len_next za k hlz
      have hxl := u64n_lt (za.getD k 0)
      have hwz := wrap_u64n (za.getD k 0)
      clear hc hlz
      generalize za.getD k 0 = z at c1 hat HN hxl hwz
      generalize u64n z = X at hat HN hxl hwz
      have D0 := Dec.start hat
      generalize key (za.drop (k + 1)) = rest at D0
      clear hat
      subst hx
      go_wp2
      go_loop [4, 7, 8] (fun p g sh => ∃ (m s G Y : Nat), p = .int .i64 ((P + m : Nat) : Int) ∧ g = .int .u64 G ∧ sh = .int .u64 s ∧ Dec S.data.toList P X m s G Y rest) (fun p _ _ => S.size - (intOf p).toNat)
      case atStart => exact ⟨0, 0, 0, X, rfl, rfl, rfl, D0⟩
      case round =>
        obtain ⟨m, s, G, Y, rfl, rfl, rfl, D⟩ := hrel
        have hm := D.hm
        have hsm : s ≤ 63 := by rw [D.hs]; omega
        by_cases hY : 128 ≤ Y
        · -- a byte that goes on
          have hm8 := D.big_m hxl (by omega)
          have hs56 : s ≤ 56 := by rw [D.hs]; omega
          have D' := D.next hxl hY
          have hl := D.hl
          rw [Lib.uvarint_big hY, List.cons_append] at hl
          have hlt2 : P + m < S.size := by have := drop_lt hl; rw [hSL.out] at this; exact this
          have hB := byteAt S (P + m) hlt2 _ _ hl
          have hor := or_step G (Y % 128 + 128) s D.hG (by omega) (by
            have e := D'.hx
            omega)
          rw [show ((Y % 128 + 128).toUInt8).toNat = Y % 128 + 128 from by simp; omega] at hB
          have hlo : 128 ≤ Y % 128 + 128 := by omega
          have hhi : Y % 128 + 128 ≤ 255 := by omega
          generalize Y % 128 + 128 = B at D' hB hor hlo hhi
          clear hl D hxl
          go_wp2
          go_round
          case rel => exact ⟨m + 1, s + 7, _, Y / 128, by go_num, rfl, by go_num, D'⟩
          case measure => simp [intOf]; omega
        · -- the last byte
          have hl := D.hl
          rw [Lib.uvarint_small (show Y < 128 by omega), List.cons_append, List.nil_append] at hl
          have hlt2 : P + m < S.size := by have := drop_lt hl; rw [hSL.out] at this; exact this
          have hB := byteAt S (P + m) hlt2 _ _ hl
          rw [show (Y.toUInt8).toNat = Y from by simp; omega] at hB
          have hYm : Y % 128 = Y := by omega
          have eX := D.hx
          have hor := or_step G Y s D.hG (by omega) (by rw [hYm]; omega)
          rw [hYm, ← eX] at hor
          have HE : Hid (P + m + 1 = (key (za.take (k + 1))).length) := by
            have e1 := D.hn
            rw [Lib.uvarint_small (show Y < 128 by omega)] at e1
            have e2 := HN.out
            unfold Hid
            simp only [List.length_singleton] at e1
            omega
          have hYlt : Y ≤ 127 := by omega
          by_cases hm9 : m = 9
          · have hs63 : 63 ≤ s := by rw [D.hs]; omega
            have hY1 : 1 ≤ Y := D.hY (by omega)
            have hY2 : Y ≤ 1 := by
              rcases Nat.lt_or_ge Y 2 with q | q
              · omega
              · have := D.big_m hxl q; omega
            have hbad := fun h => or_step63 G Y X s (by omega) hor h
            have HB := show Hid _ from hbad
            clear hl D hxl eX hYm hY HN D0 hm9 hbad
            go_wp2
            go_round
            case rel => exact ⟨k + 1, P + m + 1, by omega, by go_num, by go_num, by omega, HE⟩
            case measure => simp [intOf]; omega
          · have hs56 : s ≤ 56 := by rw [D.hs]; omega
            by_cases hY0 : Y = 0
            · have hm0 : m ≤ 0 := by
                rcases Nat.lt_or_ge m 1 with q | q
                · omega
                · have := D.hY q; omega
              have hYz : Y ≤ 0 := by omega
              clear hl D hxl eX hYm hY HN D0 hm9 hY0
              go_wp2
              go_round
              case rel => exact ⟨k + 1, P + m + 1, by omega, by go_num, by go_num, by omega, HE⟩
              case measure => simp [intOf]; omega
            · have hY1 : 1 ≤ Y := by omega
              clear hl D hxl eX hYm hY HN D0 hm9 hY0
              go_wp2
              go_round
              case rel => exact ⟨k + 1, P + m + 1, by omega, by go_num, by go_num, by omega, HE⟩
              case measure => simp [intOf]; omega
    · have hfin : ((P : Int) == (S.size : Int)) = true := by
        have e1 : P = S.size := by
          rw [HP.out, List.take_of_length_le (by rw [h2.1]; omega), ← HS.out, hSL.out]
        rw [e1]; simp
      go_wp2
      go_ret
      exact ⟨rfl, hbel⟩

theorem law5 (a : Option Addr) (n c : Nat) (za : List Int) (w : World) (hn : n ≤ maxLen)
    (hc0 : a = none → n = 0 ∧ c = 0) (h : IsInts w a n za) :
    Calls Try.prog 5 #[.slice a n c] w fun e w' => e = .returned (.bool true) ∧ Below w.heap.size w w' := by
  by_cases g2 : n ≤ 131072
  · exact law5_main a n c za w g2 hc0 h
  · clear h hc0
    by_cases g1 : n ≤ 1048576
    · go_enter Try.func5, Try.ntmps5
      go_wp2_with (go_at_call 20; refine (bytes20_yes _ _ _ _ g1).mono ?_; rintro e w ⟨rfl, rfl⟩)
      go_ret
      exact ⟨rfl, Below.refl _ _⟩
    · go_enter Try.func5, Try.ntmps5
      go_wp2_with (go_at_call 20; refine (bytes20_no _ _ _ _ g1).mono ?_; rintro e w ⟨rfl, rfl⟩)
      go_ret
      exact ⟨rfl, Below.refl _ _⟩
end Go.Proofs.Qxb6604404a
