/-
  What a type is described as; the chain over an integer type.
-/
import Derived.Test.Qxb6604345aUnA
import Derived.LaidEqlPtr
namespace Go.Proofs.Qxb6604345a
open Go.RowKit
set_option linter.unusedVariables false
attribute [local go_sem] as36_36 as36_50 as36_56 as36_58 as50_36 as50_50 as50_56 as50_58 as56_36 as56_50 as56_56 as56_58 as58_36 as58_50 as58_56 as58_58

theorem descr23_int (g : Nat) (s : ByteArray) (z : Int) (w : World) (h0 : w.cell? ⟨g, 0, none⟩ = some (.int .i64 z)) (h1 : w.cell? ⟨g, 1, none⟩ = some (.string s)) :
    Calls Try.prog 23 #[.iface 36 (.pointer (some ⟨g, 0, none⟩))] w fun e w' => e = .returned (.tuple #[.int .i64 1, .string s, .int .i64 z]) ∧ ∃ nq, w' = w.drewN nq := by
  go_enter Try.func23, Try.ntmps23
  go_wp2
  go_quiet (fail)
  go_wp2
  go_ret3
  exact ⟨rfl, _, rfl⟩

theorem descr23_ptr (g : Nat) (s : ByteArray) (z : Int) (w : World) (h0 : w.cell? ⟨g, 0, none⟩ = some (.int .i64 z)) (h1 : w.cell? ⟨g, 1, none⟩ = some (.string s)) :
    Calls Try.prog 23 #[.iface 50 (.pointer (some ⟨g, 0, none⟩))] w fun e w' => e = .returned (.tuple #[.int .i64 4, .string s, .int .i64 z]) ∧ ∃ nq, w' = w.drewN nq := by
  go_enter Try.func23, Try.ntmps23
  go_wp2
  go_quiet (fail)
  go_wp2
  go_ret3
  exact ⟨rfl, _, rfl⟩

/-- The bools of a slice, as the walks want them. -/
def IsBools (w : World) (a : Option Addr) (n : Nat) (bs : List Bool) : Prop :=
  bs.length = n ∧ (n = 0 ∨ ∃ b off, a = some ⟨b, off, none⟩ ∧ b < w.heap.size ∧ ∀ i, i < n → w.cell? ⟨b, off + i, none⟩ = some (.bool (bs.getD i false)))

theorem IsBools.later {w w' : World} {a : Option Addr} {n : Nat} {bs : List Bool} (h : IsBools w a n bs) (hb : Below w.heap.size w w') : IsBools w' a n bs := by
  obtain ⟨h1, h2⟩ := h
  refine ⟨h1, ?_⟩
  rcases h2 with h2 | ⟨b, off, h2, h3, h4⟩
  · exact .inl h2
  · exact .inr ⟨b, off, h2, Nat.lt_of_lt_of_le h3 hb.size, fun i hi => (hb.cell (p := ⟨b, off + i, none⟩) h3).trans (h4 i hi)⟩

theorem wrapAny (ty : TypeId) (x : Value) (a : Option Addr) (n c : Nat) (bs : List Bool) (w : World) (hn : n ≤ 1048576) (h : IsBools w a n bs) :
    Calls Try.prog 22 #[.iface ty x, .slice a n c] w fun e w' => ∃ v, e = .returned v ∧ Chain w' (.iface ty x) bs v ∧ Below w.heap.size w w' := by
  obtain ⟨h1, h2⟩ := h
  rcases h2 with rfl | ⟨b, off, rfl, h3, h4⟩
  · refine (wrap22_none (.iface ty x) a c w).mono ?_
    rintro e w' ⟨rfl, rfl⟩
    obtain rfl := List.eq_nil_of_length_eq_zero h1
    exact ⟨_, rfl, rfl, Below.refl _ _⟩
  · exact wrap22 ty x b off n c bs w hn h1 h3 h4

theorem Try.some42 : (Try.prog.info? 42).isSome = true := by kernel_rfl
theorem Try.some52 : (Try.prog.info? 52).isSome = true := by kernel_rfl
theorem Try.some57 : (Try.prog.info? 57).isSome = true := by kernel_rfl
theorem Try.some60 : (Try.prog.info? 60).isSome = true := by kernel_rfl
theorem eql36 (w : World) (a : Addr) : (binOp .eql 36 (.pointer (some a)) (.pointer (some a))).run Try.prog w = .ok (.bool true) w := by
  obtain ⟨j, hj⟩ := Option.isSome_iff_exists.1 Try.some42
  exact run_eql_ptr_same w a Try.underlying36 hj
theorem eql50 (w : World) (a : Addr) : (binOp .eql 50 (.pointer (some a)) (.pointer (some a))).run Try.prog w = .ok (.bool true) w := by
  obtain ⟨j, hj⟩ := Option.isSome_iff_exists.1 Try.some52
  exact run_eql_ptr_same w a Try.underlying50 hj
theorem eql56 (w : World) (a : Addr) : (binOp .eql 56 (.pointer (some a)) (.pointer (some a))).run Try.prog w = .ok (.bool true) w := by
  obtain ⟨j, hj⟩ := Option.isSome_iff_exists.1 Try.some57
  exact run_eql_ptr_same w a Try.underlying56 hj
theorem eql58 (w : World) (a : Addr) : (binOp .eql 58 (.pointer (some a)) (.pointer (some a))).run Try.prog w = .ok (.bool true) w := by
  obtain ⟨j, hj⟩ := Option.isSome_iff_exists.1 Try.some60
  exact run_eql_ptr_same w a Try.underlying58 hj
attribute [local go_sem] eql36 eql50 eql56 eql58

set_option maxHeartbeats 400000 in
theorem chain16 (a : Option Addr) (n c : Nat) (s : ByteArray) (z : Int) (bs : List Bool) (w : World) (hn : n ≤ 1048576) (h : IsBools w a n bs) :
    Calls Try.prog 16 #[.slice a n c, .string s, .int .i64 z] w fun e w' => e = .returned (.tuple #[.int .i64 1, .string s, .int .i64 z, .bool true]) ∧ Below w.heap.size w w' := by
  go_enter Try.func16, Try.ntmps16
  go_wp2_with fail
  refine (wrapAny _ _ a n c bs _ hn (h.later ((Below.refl _ _).alloc (Nat.le_refl _) _))).mono ?_
  rintro e w1 ⟨v, rfl, hch, hb1⟩
  have c0 := hb1.cell (p := ⟨w.heap.size, 0, none⟩) (by simp)
  have c1 := hb1.cell (p := ⟨w.heap.size, 1, none⟩) (by simp)
  simp at c0 c1
  go_wp2_with fail
  refine (under21 _ _ bs v _ (fun W => as36_56 _ W) (fun W => as36_58 _ W) hch).mono ?_
  rintro e w2 ⟨rfl, hw⟩
  subst hw
  go_wp2_with fail
  refine (descr23_int _ _ _ _ c0 c1).mono ?_
  rintro e w3 ⟨rfl, nq, rfl⟩
  go_wp2
  refine bodyPost_ret (v := .tuple #[.int .i64 1, .string s, .int .i64 z, .bool true]) (by simp [results, Try.results16, go_sem]) rfl ⟨rfl, ?_⟩
  exact below_drewN (((Below.refl _ _).alloc (Nat.le_refl _) _).trans (hb1.mono (by simp))) _

end Go.Proofs.Qxb6604345a
