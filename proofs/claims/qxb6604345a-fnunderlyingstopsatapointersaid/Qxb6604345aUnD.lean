/-
  FnUnderlyingStopsAtAPointer: the size test, the same type, ZZUnderlyingOfPointer, the walk.
-/
import Derived.Test.Qxb6604345aUnC
namespace Go.Proofs.Qxb6604345a
open Go.RowKit
set_option linter.unusedVariables false
attribute [local go_sem] as36_36 as36_50 as36_56 as36_58 as50_36 as50_50 as50_56 as50_58 as56_36 as56_50 as56_56 as56_58 as58_36 as58_50 as58_56 as58_58 eql36 eql50 eql56 eql58

set_option maxHeartbeats 1000000 in
theorem bytes17 (a : Option Addr) (n c : Nat) (s : ByteArray) (a' : Option Addr) (n' c' : Nat) (s' : ByteArray) (w : World) (hs : s.size ≤ maxLen) (hn : n ≤ maxLen) (hs' : s'.size ≤ maxLen) (hn' : n' ≤ maxLen) :
    Calls Try.prog 17 #[.slice a n c, .string s, .slice a' n' c', .string s'] w fun e w' => e = .returned (.bool (decide (n + s.size + n' + s'.size ≤ 1048576))) ∧ w' = w := by
  unfold maxLen at hs hn hs' hn'
  by_cases h0 : n ≤ 1048576
  · by_cases h1 : s.size ≤ 1048576
    · by_cases h2 : n + s.size ≤ 1048576
      · by_cases h3 : n' ≤ 1048576
        · by_cases h4 : n + s.size + n' ≤ 1048576
          · by_cases h5 : s'.size ≤ 1048576
            · by_cases h6 : n + s.size + n' + s'.size ≤ 1048576
              · rw [decide_eq_true h6]
                go_enter Try.func17, Try.ntmps17
                go_wp2
                go_ret
                exact ⟨rfl, rfl⟩
              · rw [decide_eq_false (by omega)]
                go_enter Try.func17, Try.ntmps17
                go_wp2
                go_ret
                exact ⟨rfl, rfl⟩
            · rw [decide_eq_false (by omega)]
              go_enter Try.func17, Try.ntmps17
              go_wp2
              go_ret
              exact ⟨rfl, rfl⟩
          · rw [decide_eq_false (by omega)]
            go_enter Try.func17, Try.ntmps17
            go_wp2
            go_ret
            exact ⟨rfl, rfl⟩
        · rw [decide_eq_false (by omega)]
          go_enter Try.func17, Try.ntmps17
          go_wp2
          go_ret
          exact ⟨rfl, rfl⟩
      · rw [decide_eq_false (by omega)]
        go_enter Try.func17, Try.ntmps17
        go_wp2
        go_ret
        exact ⟨rfl, rfl⟩
    · rw [decide_eq_false (by omega)]
      go_enter Try.func17, Try.ntmps17
      go_wp2
      go_ret
      exact ⟨rfl, rfl⟩
  · rw [decide_eq_false (by omega)]
    go_enter Try.func17, Try.ntmps17
    go_wp2
    go_ret
    exact ⟨rfl, rfl⟩

theorem bytes17_yes (a : Option Addr) (n c : Nat) (s : ByteArray) (a' : Option Addr) (n' c' : Nat) (s' : ByteArray) (w : World) (hs : s.size ≤ maxLen) (hn : n ≤ maxLen) (hs' : s'.size ≤ maxLen) (hn' : n' ≤ maxLen) (h : n + s.size + n' + s'.size ≤ 1048576) :
    Calls Try.prog 17 #[.slice a n c, .string s, .slice a' n' c', .string s'] w fun e w' => e = .returned (.bool true) ∧ w' = w := by
  have := bytes17 a n c s a' n' c' s' w hs hn hs' hn'
  rwa [decide_eq_true h] at this
theorem bytes17_no (a : Option Addr) (n c : Nat) (s : ByteArray) (a' : Option Addr) (n' c' : Nat) (s' : ByteArray) (w : World) (hs : s.size ≤ maxLen) (hn : n ≤ maxLen) (hs' : s'.size ≤ maxLen) (hn' : n' ≤ maxLen) (h : ¬ n + s.size + n' + s'.size ≤ 1048576) :
    Calls Try.prog 17 #[.slice a n c, .string s, .slice a' n' c', .string s'] w fun e w' => e = .returned (.bool false) ∧ w' = w := by
  have := bytes17 a n c s a' n' c' s' w hs hn hs' hn'
  rwa [decide_eq_false h] at this

theorem same24 (g : Nat) (bs : List Bool) (v : Value) (w wc : World) (hch : Chain wc (.iface 36 (.pointer (some ⟨g, 0, none⟩))) bs v) :
    Calls Try.prog 24 #[v, v] w fun e w' => e = .returned (.bool true) ∧ w' = w := by
  match bs, hch with
  | [], hch =>
    obtain rfl := hch
    go_enter Try.func24, Try.ntmps24
    go_wp2
    go_ret
    exact ⟨rfl, rfl⟩
  | true :: r, ⟨g', u, h1, _, _⟩ =>
    subst h1
    go_enter Try.func24, Try.ntmps24
    go_wp2
    go_ret
    exact ⟨rfl, rfl⟩
  | false :: r, ⟨g', u, h1, _, _⟩ =>
    subst h1
    go_enter Try.func24, Try.ntmps24
    go_wp2
    go_ret
    exact ⟨rfl, rfl⟩

theorem chain_shape {w : World} {ty : TypeId} {x : Value} : ∀ {bs : List Bool} {v : Value}, Chain w (.iface ty x) bs v → ∃ t y, v = .iface t y
  | [], _, h => ⟨ty, x, h⟩
  | true :: _, _, ⟨g, _, h, _, _⟩ => ⟨56, _, h⟩
  | false :: _, _, ⟨g, _, h, _, _⟩ => ⟨58, _, h⟩

set_option maxHeartbeats 800000 in
theorem ptr18 (a : Option Addr) (n c : Nat) (s : ByteArray) (a' : Option Addr) (n' c' : Nat) (s' : ByteArray) (bs bs' : List Bool) (w : World) (hn : n ≤ 1048576) (hn' : n' ≤ 1048576) (h : IsBools w a n bs) (h' : IsBools w a' n' bs') :
    Calls Try.prog 18 #[.slice a n c, .string s, .slice a' n' c', .string s'] w fun e w' => e = .returned (.tuple #[.int .i64 4, .string s, .bool true, .bool true]) ∧ Below w.heap.size w w' := by
  go_enter Try.func18, Try.ntmps18
  go_wp2_with fail
  refine (wrapAny _ _ a' n' c' bs' _ hn' (h'.later ((Below.refl _ _).alloc (Nat.le_refl _) _))).mono ?_
  rintro e w1 ⟨v, rfl, hch, hb1⟩
  obtain ⟨t1, x1, rfl⟩ := chain_shape hch
  have hb01 : Below w.heap.size w w1 := ((Below.refl _ _).alloc (Nat.le_refl _) _).trans (hb1.mono (by simp))
  have h1 := h.later hb01
  clear h h'
  go_wp2_with fail
  refine (wrapAny _ _ a n c bs _ hn (h1.later ((Below.refl _ _).alloc (Nat.le_refl _) _))).mono ?_
  rintro e w2 ⟨v2, rfl, hch2, hb2⟩
  have c0 := hb2.cell (p := ⟨w1.heap.size, 0, none⟩) (by simp)
  have c1 := hb2.cell (p := ⟨w1.heap.size, 1, none⟩) (by simp)
  have c2 := hb2.cell (p := ⟨w1.heap.size, 2, none⟩) (by simp)
  simp at c0 c1 c2
  clear h1
  go_wp2_with fail
  refine (under21 _ _ bs v2 _ (fun W => as50_56 _ W) (fun W => as50_58 _ W) hch2).mono ?_
  rintro e w2 ⟨rfl, rfl⟩
  go_wp2_with fail
  refine (descr23_ptr _ _ _ _ c0 c1).mono ?_
  rintro e w3 ⟨rfl, nq, rfl⟩
  go_wp2_with fail
  refine (same24 _ bs' _ _ _ hch).mono ?_
  rintro e w4 ⟨rfl, rfl⟩
  go_wp2
  refine bodyPost_ret (v := .tuple #[.int .i64 4, .string s, .bool true, .bool true]) (by simp [results, Try.results18, go_sem]) rfl ⟨rfl, ?_⟩
  exact below_drewN (hb01.trans (((Below.refl _ _).alloc hb01.size _).trans (hb2.mono (by have := hb01.size; simp; omega)))) _

set_option maxRecDepth 100000 in
set_option maxHeartbeats 1600000 in
theorem law6 (a : Option Addr) (n c : Nat) (s : ByteArray) (a' : Option Addr) (n' c' : Nat) (s' : ByteArray) (bs bs' : List Bool) (w : World) (hs : s.size ≤ maxLen) (hn : n ≤ maxLen) (hs' : s'.size ≤ maxLen) (hn' : n' ≤ maxLen)
    (hc0 : a = none → n = 0 ∧ c = 0) (hc0' : a' = none → n' = 0 ∧ c' = 0) (h : IsBools w a n bs) (h' : IsBools w a' n' bs') :
    Calls Try.prog 6 #[.slice a n c, .string s, .slice a' n' c', .string s'] w fun e w' => e = .returned (.bool true) ∧ Below w.heap.size w w' := by
  have HC := show Hid _ from hc0
  have HC' := show Hid _ from hc0'
  clear hc0 hc0'
  by_cases g1 : n + s.size + n' + s'.size ≤ 1048576
  · by_cases g2 : n ≤ 65536
    · by_cases g3 : n' ≤ 65536
      · go_enter Try.func6, Try.ntmps6
        go_wp2_with (go_at_call 17; refine (bytes17_yes _ _ _ _ _ _ _ _ _ hs hn hs' hn' g1).mono ?_; rintro e w ⟨rfl, rfl⟩)
        refine (cloneAny a n c bs _ (by omega) HC.out h).mono ?_
        rintro e w1 ⟨b, d, rfl, h1, hb1⟩
        have h1' := h'.later hb1
        clear h h'
        go_wp2_with fail
        refine (cloneAny a' n' c' bs' _ (by omega) HC'.out h1').mono ?_
        rintro e w2 ⟨b', d', rfl, h2', hb2⟩
        have h2 := h1.later hb2
        clear h1 h1'
        go_wp2_with fail
        refine (ptr18 b n d s b' n' d' s' bs bs' _ (by omega) (by omega) h2 h2').mono ?_
        rintro e w3 ⟨rfl, hb3⟩
        go_wp2
        go_ret
        exact ⟨rfl, (hb1.trans (hb2.mono hb1.size)).trans (hb3.mono (Nat.le_trans hb1.size hb2.size))⟩
      · go_enter Try.func6, Try.ntmps6
        go_wp2_with (go_at_call 17; refine (bytes17_yes _ _ _ _ _ _ _ _ _ hs hn hs' hn' g1).mono ?_; rintro e w ⟨rfl, rfl⟩)
        go_ret
        exact ⟨rfl, Below.refl _ _⟩
    · go_enter Try.func6, Try.ntmps6
      go_wp2_with (go_at_call 17; refine (bytes17_yes _ _ _ _ _ _ _ _ _ hs hn hs' hn' g1).mono ?_; rintro e w ⟨rfl, rfl⟩)
      go_ret
      exact ⟨rfl, Below.refl _ _⟩
  · go_enter Try.func6, Try.ntmps6
    go_wp2_with (go_at_call 17; refine (bytes17_no _ _ _ _ _ _ _ _ _ hs hn hs' hn' g1).mono ?_; rintro e w ⟨rfl, rfl⟩)
    go_ret
    exact ⟨rfl, Below.refl _ _⟩
end Go.Proofs.Qxb6604345a
