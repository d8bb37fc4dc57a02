/-
  FnBackReferenceMovesByItsCapture: the walk.
-/
import Derived.Test.Qxb6603766aBrD
namespace Go.Proofs.Qxb6603766a
open Go.RowKit
set_option linter.unusedVariables false

/-- What the walk is told of a slice of integers that came in. -/
def IsRow (k : IntKind) (w : World) (a : Option Addr) (len cap : Nat) (zs : List Int) : Prop :=
  (a = none ∧ len = 0 ∧ cap = 0 ∧ zs = []) ∨
  ∃ x, a = some x ∧ len ≤ cap ∧ cap ≤ maxLen ∧ zs.length = cap ∧ (∀ i, i < zs.length → w.cell? (x.add i) = some (.int k (zs.getD i 0))) ∧ ∀ n ∈ zs, (Lit.int k n).wf = true

theorem IsRow.len_le {k : IntKind} {w : World} {a : Option Addr} {len cap : Nat} {zs : List Int} (h : IsRow k w a len cap zs) : len ≤ maxLen := by
  rcases h with ⟨_, rfl, _, _⟩ | ⟨x, _, h1, h2, _⟩
  · exact Nat.zero_le _
  · exact Nat.le_trans h1 h2

theorem bytes14_yes (s : ByteArray) (a : Option Addr) (n c : Nat) (x : Int) (b : Bool) (y z : Int) (w : World) (hs : s.size ≤ maxLen) (hn : n ≤ maxLen) (h : s.size + n ≤ 1048576) :
    Calls Try.prog 14 #[.string s, .slice a n c, .int .i64 x, .bool b, .int .i64 y, .int .i64 z] w fun e w' => e = .returned (.bool true) ∧ w' = w := by
  have := bytes14 s a n c x b y z w hs hn
  rwa [decide_eq_true h] at this
theorem bytes14_no (s : ByteArray) (a : Option Addr) (n c : Nat) (x : Int) (b : Bool) (y z : Int) (w : World) (hs : s.size ≤ maxLen) (hn : n ≤ maxLen) (h : ¬ s.size + n ≤ 1048576) :
    Calls Try.prog 14 #[.string s, .slice a n c, .int .i64 x, .bool b, .int .i64 y, .int .i64 z] w fun e w' => e = .returned (.bool false) ∧ w' = w := by
  have := bytes14 s a n c x b y z w hs hn
  rwa [decide_eq_false h] at this

set_option maxHeartbeats 2000000 in
/-- The early returns: none of them reads a register. -/
theorem early5 (s : ByteArray) (a : Option Addr) (n c : Nat) (x : Int) (b : Bool) (y z : Int) (w : World) (hs : s.size ≤ maxLen) (hn : n ≤ maxLen)
    (h : ¬ (s.size + n ≤ 1048576 ∧ n ≤ 131072 ∧ s.size + 8 * n ≤ 1048576 ∧ 0 ≤ x ∧ x < n / 2 ∧ 0 ≤ y ∧ y ≤ s.size)) :
    Calls Try.prog 5 #[.string s, .slice a n c, .int .i64 x, .bool b, .int .i64 y, .int .i64 z] w fun e w' => e = .returned (.bool true) ∧ Below w.heap.size w w' := by
  by_cases g1 : s.size + n ≤ 1048576
  · by_cases g2 : n ≤ 131072
    · by_cases g3 : s.size + 8 * n ≤ 1048576
      · by_cases g4 : 0 ≤ x
        · by_cases g5 : x < n / 2
          · by_cases g6 : 0 ≤ y
            · have g7 : ¬ y ≤ s.size := by omega
              clear h
              go_enter Try.func5, Try.ntmps5
              go_wp2_with (go_at_call 14; refine (bytes14_yes _ _ _ _ _ _ _ _ _ hs hn g1).mono ?_; rintro e w' ⟨rfl, rfl⟩)
              go_ret
              exact ⟨rfl, Below.refl _ _⟩
            · clear h
              go_enter Try.func5, Try.ntmps5
              go_wp2_with (go_at_call 14; refine (bytes14_yes _ _ _ _ _ _ _ _ _ hs hn g1).mono ?_; rintro e w' ⟨rfl, rfl⟩)
              go_ret
              exact ⟨rfl, Below.refl _ _⟩
          · clear h
            go_enter Try.func5, Try.ntmps5
            go_wp2_with (go_at_call 14; refine (bytes14_yes _ _ _ _ _ _ _ _ _ hs hn g1).mono ?_; rintro e w' ⟨rfl, rfl⟩)
            go_ret
            exact ⟨rfl, Below.refl _ _⟩
        · clear h
          go_enter Try.func5, Try.ntmps5
          go_wp2_with (go_at_call 14; refine (bytes14_yes _ _ _ _ _ _ _ _ _ hs hn g1).mono ?_; rintro e w' ⟨rfl, rfl⟩)
          go_ret
          exact ⟨rfl, Below.refl _ _⟩
      · clear h
        go_enter Try.func5, Try.ntmps5
        go_wp2_with (go_at_call 14; refine (bytes14_yes _ _ _ _ _ _ _ _ _ hs hn g1).mono ?_; rintro e w' ⟨rfl, rfl⟩)
        go_ret
        exact ⟨rfl, Below.refl _ _⟩
    · clear h
      go_enter Try.func5, Try.ntmps5
      go_wp2_with (go_at_call 14; refine (bytes14_yes _ _ _ _ _ _ _ _ _ hs hn g1).mono ?_; rintro e w' ⟨rfl, rfl⟩)
      go_ret
      exact ⟨rfl, Below.refl _ _⟩
  · clear h
    go_enter Try.func5, Try.ntmps5
    go_wp2_with (go_at_call 14; refine (bytes14_no _ _ _ _ _ _ _ _ _ hs hn g1).mono ?_; rintro e w' ⟨rfl, rfl⟩)
    go_ret
    exact ⟨rfl, Below.refl _ _⟩

end Go.Proofs.Qxb6603766a
