/-
  The clone for every slice of bools; FnUnderlyingStripsEveryTypedefAndQualifier: the walk.
-/
import Derived.Test.Qxb6604345aUnB
namespace Go.Proofs.Qxb6604345a
open Go.RowKit
set_option linter.unusedVariables false

set_option maxHeartbeats 400000 in
theorem clone15_empty (a : Addr) (c : Nat) (w : World) :
    Calls Try.prog 15 #[.slice (some a) 0 c] w fun e w' => e = .returned (.slice (some ⟨w.heap.size, 0, none⟩) 0 0) ∧ Below w.heap.size w w' := by
  have hnil := fun wx => Lib.run_eql_slice_nil (P := Try.prog) (w := wx) 28 4 (some a) 0 c 0 0 Try.underlying28
  obtain ⟨i0, hi, hz0, hz1, hz2⟩ := info_parts Try.info4
  go_enter Try.func15, Try.ntmps15
  go_wp2_with (at_make; refine wpList_make_full _ rfl _ _ 28 rfl w.heap.size 4 i0 (.bool false) 1 Try.underlying28 hi hz0 hz1 .i64 .i64 _ _ 0 rfl rfl rfl rfl (by rw [hz2]; omega) (by unfold maxLen; omega) (Nat.le_refl _) ?_; intro w1 hown hgrow)
  have hb1 : Below w.heap.size w w1 := (Below.refl _ _).grown hgrow (Nat.le_refl _) (by intro k hk; cases hk)
  clear hown hgrow hnil
  refine wp_loop_rounds 1 ?_
  rw [rounds_succ]
  go_wp2
  go_ret
  exact ⟨rfl, hb1⟩

theorem cloneAny (a : Option Addr) (n c : Nat) (bs : List Bool) (w : World) (hn : n ≤ 1048576) (hc0 : a = none → n = 0 ∧ c = 0) (h : IsBools w a n bs) :
    Calls Try.prog 15 #[.slice a n c] w fun e w' => ∃ a' c', e = .returned (.slice a' n c') ∧ IsBools w' a' n bs ∧ Below w.heap.size w w' := by
  cases a with
  | none =>
    obtain ⟨rfl, rfl⟩ := hc0 rfl
    refine (clone15_nil w).mono ?_
    rintro e w' ⟨rfl, rfl⟩
    exact ⟨none, 0, rfl, h, Below.refl _ _⟩
  | some a =>
    obtain ⟨h1, h2⟩ := h
    by_cases h0 : n = 0
    · subst h0
      refine (clone15_empty a c w).mono ?_
      rintro e w' ⟨rfl, hb⟩
      exact ⟨_, _, rfl, ⟨h1, .inl rfl⟩, hb⟩
    · rcases h2 with h2 | ⟨b, off, h2, h3, h4⟩
      · exact absurd h2 h0
      · obtain rfl : a = ⟨b, off, none⟩ := by simpa using h2
        refine (clone15_some b off n c bs w hn h3 (by omega) h4).mono ?_
        rintro e w' ⟨rfl, hown, hb⟩
        refine ⟨_, _, rfl, ⟨h1, .inr ⟨w.heap.size, 0, rfl, (hown.lt _ rfl).2, fun i hi => ?_⟩⟩, hb⟩
        rw [Nat.zero_add, hown.cellAt i (by omega), List.getElem?_map, List.getElem?_take_of_lt hi, List.getElem?_eq_getElem (by omega)]
        simp [List.getD_eq_getElem?_getD, List.getElem?_eq_getElem (show i < bs.length by omega)]

theorem bytes14_yes (a : Option Addr) (n c : Nat) (s : ByteArray) (z : Int) (w : World) (hs : s.size ≤ maxLen) (hn : n ≤ maxLen) (h : n + s.size ≤ 1048576) :
    Calls Try.prog 14 #[.slice a n c, .string s, .int .i64 z] w fun e w' => e = .returned (.bool true) ∧ w' = w := by
  have := bytes14 a n c s z w hs hn
  rwa [decide_eq_true h] at this
theorem bytes14_no (a : Option Addr) (n c : Nat) (s : ByteArray) (z : Int) (w : World) (hs : s.size ≤ maxLen) (hn : n ≤ maxLen) (h : ¬ n + s.size ≤ 1048576) :
    Calls Try.prog 14 #[.slice a n c, .string s, .int .i64 z] w fun e w' => e = .returned (.bool false) ∧ w' = w := by
  have := bytes14 a n c s z w hs hn
  rwa [decide_eq_false h] at this

set_option maxHeartbeats 800000 in
theorem law5 (a : Option Addr) (n c : Nat) (s : ByteArray) (z : Int) (bs : List Bool) (w : World) (hs : s.size ≤ maxLen) (hn : n ≤ maxLen) (hc0 : a = none → n = 0 ∧ c = 0) (h : IsBools w a n bs) :
    Calls Try.prog 5 #[.slice a n c, .string s, .int .i64 z] w fun e w' => e = .returned (.bool true) ∧ Below w.heap.size w w' := by
  have HC := show Hid _ from hc0
  clear hc0
  by_cases g1 : n + s.size ≤ 1048576
  · by_cases g2 : n ≤ 65536
    · go_enter Try.func5, Try.ntmps5
      go_wp2_with (go_at_call 14; refine (bytes14_yes _ _ _ _ _ _ hs hn g1).mono ?_; rintro e w ⟨rfl, rfl⟩)
      refine (cloneAny a n c bs _ (by omega) HC.out h).mono ?_
      rintro e w1 ⟨a', c', rfl, h', hb1⟩
      go_wp2_with fail
      refine (chain16 a' n c' s z bs _ (by omega) h').mono ?_
      rintro e w2 ⟨rfl, hb2⟩
      go_wp2
      go_ret
      exact ⟨rfl, hb1.trans (hb2.mono hb1.size)⟩
    · go_enter Try.func5, Try.ntmps5
      go_wp2_with (go_at_call 14; refine (bytes14_yes _ _ _ _ _ _ hs hn g1).mono ?_; rintro e w ⟨rfl, rfl⟩)
      go_ret
      exact ⟨rfl, Below.refl _ _⟩
  · go_enter Try.func5, Try.ntmps5
    go_wp2_with (go_at_call 14; refine (bytes14_no _ _ _ _ _ _ hs hn g1).mono ?_; rintro e w ⟨rfl, rfl⟩)
    go_ret
    exact ⟨rfl, Below.refl _ _⟩
end Go.Proofs.Qxb6604345a
