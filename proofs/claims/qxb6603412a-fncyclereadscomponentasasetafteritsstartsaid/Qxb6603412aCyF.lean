/-
  The size tests: they answer some bool and change nothing.
-/
import Derived.Test.Qxb6603412aCyE
namespace Go.Proofs.Qxb6603412a
open Go.RowKit
set_option linter.unusedVariables false

/-- It returned some bool. -/
def SomeBool (e : Ending) : Prop := ∃ q : Bool, e = .returned (.bool q)

set_option maxHeartbeats 1600000 in
theorem bytes17 (a : Option Addr) (n c : Nat) (x : Value) (g : List (List Ed)) (a' : Option Addr) (n' c' : Nat) (w : World) (h : IsOut w x g) :
    Calls Try.prog 17 #[.slice a n c, x, .slice a' n' c'] w fun e w' => SomeBool e ∧ w' = w := by
  obtain ⟨ax, cx, rfl, _⟩ := h.shape
  go_enter Try.func17, Try.ntmps17
  go_wp2
  · go_ret
    exact ⟨⟨_, rfl⟩, rfl⟩
  · go_ret
    exact ⟨⟨_, rfl⟩, rfl⟩
  · go_ret
    exact ⟨⟨_, rfl⟩, rfl⟩
  go_loop [7, 8] (fun z i => ∃ (k : Nat) (q : Int), k ≤ g.length ∧ i = .int .i64 k ∧ z = .int .i64 q ∧ 0 ≤ q ∧ q ≤ 1048576) (fun _ i => g.length - (intOf i).toNat)
  case atStart => exact ⟨0, _, Nat.zero_le _, rfl, rfl, by omega, by omega⟩
  case round =>
    obtain ⟨k, q, hk, rfl, rfl, hq0, hq1⟩ := hrel
    by_cases hlt : k < g.length
    · obtain ⟨b, off, c0, hx, hb, hc⟩ := h.pos (by omega)
      obtain ⟨y, c1, hy⟩ := hc k hlt
      obtain ⟨ay, cy, rfl, _⟩ := hy.shape
      clear hc hy h
      generalize (g.getD k []).length = L at c1
      obtain rfl : ax = some ⟨b, off, none⟩ := by simpa using congrArg (fun v => match v with | Value.slice a _ _ => a | _ => none) hx
      clear hx
      go_wp2
      · go_ret
        exact ⟨⟨_, rfl⟩, rfl⟩
      · go_ret
        exact ⟨⟨_, rfl⟩, rfl⟩
      go_round
      case rel => exact ⟨k + 1, _, by omega, by go_num, rfl, by omega, by omega⟩
      case measure => simp [intOf]; omega
    · clear h
      go_wp2
      all_goals (go_ret; exact ⟨⟨_, rfl⟩, rfl⟩)

set_option maxHeartbeats 1600000 in
theorem bytes23 (a : Option Addr) (n c : Nat) (x : Value) (g : List (List Ed)) (a' : Option Addr) (n' c' : Nat) (a'' : Option Addr) (n'' c'' : Nat) (w : World) (h : IsOut w x g) :
    Calls Try.prog 23 #[.slice a n c, x, .slice a' n' c', .slice a'' n'' c''] w fun e w' => SomeBool e ∧ w' = w := by
  obtain ⟨ax, cx, rfl, _⟩ := h.shape
  go_enter Try.func23, Try.ntmps23
  go_wp2
  · go_ret
    exact ⟨⟨_, rfl⟩, rfl⟩
  · go_ret
    exact ⟨⟨_, rfl⟩, rfl⟩
  · go_ret
    exact ⟨⟨_, rfl⟩, rfl⟩
  go_loop [9, 10] (fun z i => ∃ (k : Nat) (q : Int), k ≤ g.length ∧ i = .int .i64 k ∧ z = .int .i64 q ∧ 0 ≤ q ∧ q ≤ 1048576) (fun _ i => g.length - (intOf i).toNat)
  case atStart => exact ⟨0, _, Nat.zero_le _, rfl, rfl, by omega, by omega⟩
  case round =>
    obtain ⟨k, q, hk, rfl, rfl, hq0, hq1⟩ := hrel
    by_cases hlt : k < g.length
    · obtain ⟨b, off, c0, hx, hb, hc⟩ := h.pos (by omega)
      obtain ⟨y, c1, hy⟩ := hc k hlt
      obtain ⟨ay, cy, rfl, _⟩ := hy.shape
      clear hc hy h
      generalize (g.getD k []).length = L at c1
      obtain rfl : ax = some ⟨b, off, none⟩ := by simpa using congrArg (fun v => match v with | Value.slice a _ _ => a | _ => none) hx
      clear hx
      go_wp2
      · go_ret
        exact ⟨⟨_, rfl⟩, rfl⟩
      · go_ret
        exact ⟨⟨_, rfl⟩, rfl⟩
      go_round
      case rel => exact ⟨k + 1, _, by omega, by go_num, rfl, by omega, by omega⟩
      case measure => simp [intOf]; omega
    · clear h
      go_wp2
      all_goals (go_ret; exact ⟨⟨_, rfl⟩, rfl⟩)

end Go.Proofs.Qxb6603412a
