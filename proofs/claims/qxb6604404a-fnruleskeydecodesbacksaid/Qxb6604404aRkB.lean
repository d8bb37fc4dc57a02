/-
  rulesKey: the varints of the indices, one behind the other.
-/
import Derived.Test.Qxb6604404aRkA
import Derived.Test.Qxb6604404aShelf
import Derived.Laws.IdiomStrings
namespace Go.Proofs.Qxb6604404a
open Go.RowKit
set_option linter.unusedVariables false

/-- An index read as a uint64. -/
def u64n (z : Int) : Nat := (z % 18446744073709551616).toNat
/-- The key, as a list of bytes. -/
def key : List Int → List UInt8
  | [] => []
  | z :: r => Lib.uvarint (u64n z) ++ key r

theorem u64n_lt (z : Int) : u64n z < 18446744073709551616 := by unfold u64n; omega
theorem key_append : ∀ (a b : List Int), key (a ++ b) = key a ++ key b
  | [], b => rfl
  | z :: r, b => by simp [key, key_append r b]
theorem key_length : ∀ (a : List Int), a.length ≤ (key a).length ∧ (key a).length ≤ 10 * a.length
  | [] => by simp [key]
  | z :: r => by
    have h := key_length r
    have h1 := Lib.uvarint_pos (u64n z)
    have h2 := Lib.uvarint_length64 (u64n_lt z)
    simp only [key, List.length_append, List.length_cons]
    omega

theorem wrap_u64n (z : Int) : IntKind.u64.wrap z = ((u64n z : Nat) : Int) := by
  have h : IntKind.u64.wrap z = z % 18446744073709551616 := by simp [IntKind.wrap, IntKind.signed, IntKind.bits]
  rw [h]
  unfold u64n
  omega

theorem key_take_next (zs : List Int) (k : Nat) (hk : k < zs.length) : key (zs.take (k + 1)) = key (zs.take k) ++ Lib.uvarint (u64n (zs.getD k 0)) := by
  have h2 : zs.take (k + 1) = zs.take k ++ [zs.getD k 0] := by
    rw [List.take_succ_eq_append_getElem hk]
    simp [List.getD_eq_getElem?_getD, List.getElem?_eq_getElem hk]
  rw [h2, key_append]
  simp [key]

set_option maxHeartbeats 400000 in
theorem key29 (b off n c : Nat) (zs : List Int) (w : World) (hn : n ≤ 1048576) (hl : zs.length = n) (hb : b < w.heap.size)
    (hc : ∀ i, i < n → w.cell? ⟨b, off + i, none⟩ = some (.int .i64 (zs.getD i 0))) :
    Calls Try.prog 29 #[.slice (some ⟨b, off, none⟩) n c] w fun e w' => e = .returned (.string ⟨(key zs).toArray⟩) ∧ Below w.heap.size w w' := by
  have HC := show Hid _ from hc
  have HL := show Hid _ from hl
  clear hc hl
  go_enter Try.func29, Try.ntmps29
  go_wp2
  go_loopw [3, 8] (fun v i wr => ∃ k : Nat, k ≤ n ∧ i = .int .i64 k ∧ wr.ownsRow w.heap.size 5 1 v (key (zs.take k)).length (Lib.byteCells (key (zs.take k))) ∧ Below w.heap.size w wr)
    (fun _ i _ => n - (intOf i).toNat)
  case atStart => exact ⟨0, Nat.zero_le _, rfl, World.ownsRow_nil _ _ _ _, Below.refl _ _⟩
  case round =>
    obtain ⟨k, hk, rfl, hown, hbr⟩ := hrel
    by_cases hlt : k < n
    · have hcx : wr.cell? ⟨b, off + k, none⟩ = some (.int .i64 (zs.getD k 0)) := (hbr.cell (by exact hb)).trans (HC.out k hlt)
      have hkl : (key (zs.take k)).length + 10 ≤ 140737488355328 := by
        have := (key_length (zs.take k)).2
        have := List.length_take_le k zs
        omega
      have hnext : Hid (key (zs.take (k + 1)) = key (zs.take k) ++ Lib.uvarint (u64n (zs.getD k 0))) := key_take_next zs k (by rw [HL.out]; exact hlt)
      generalize zs.getD k 0 = z at hcx hnext
      go_wp2_with fail
      rw [wrap_u64n z]
      refine (Try.binary_AppendUvarint w.heap.size _ (u64n z) (u64n_lt z) _ _ _ hown hbr.size hkl).mono ?_
      rintro e w1 ⟨v', rfl, hown1, hb1⟩
      go_wp2
      go_roundw
      case rel =>
        refine ⟨k + 1, by omega, by go_num, ?_, hbr.trans hb1⟩
        rw [hnext.out, List.length_append, Lib.byteCells, List.map_append]
        exact hown1
      case measure => simp [intOf]; omega
    · have hkn : k = n := by omega
      subst hkn
      have hz : key (zs.take k) = key zs := by rw [List.take_of_length_le (by rw [HL.out]; exact Nat.le_refl _)]
      rw [hz] at hown
      clear hz
      generalize hl : key zs = l at hown
      have HK := show Hid _ from hl
      clear hl
      rcases hown.2 with ⟨rfl, h0⟩ | ⟨g, cap, cur, rfl, _⟩
      · obtain rfl := List.eq_nil_of_length_eq_zero h0
        have conv := run_convert_bytes_nil (P := Try.prog) wr 78 5 Try.underlying78 Try.underlying5 0 0 9 Try.underlying9
        clear hown
        go_wp2
        go_ret
        exact ⟨by rw [HK.out]; rfl, hbr⟩
      · have conv := run_convert_bytes_back (P := Try.prog) wr 78 9 5 ⟨g, 0, none⟩ cap l Try.underlying78 Try.underlying5 Try.underlying9 (fun j hj => by
          have := hown.cells rfl j _ (List.getElem?_eq_getElem (by simpa [Lib.byteCells] using hj))
          simpa [Lib.byteCells] using this)
        clear hown
        go_wp2
        go_ret
        exact ⟨by rw [HK.out]; rfl, hbr⟩
end Go.Proofs.Qxb6604404a
