/-
  ZZrulesKey for every slice; the key tells lists apart (plain).
-/
import Derived.Test.Qxb6604404aRkB
namespace Go.Proofs.Qxb6604404a
open Go.RowKit
set_option linter.unusedVariables false

theorem toUInt8_inj {a b : Nat} (ha : a < 256) (hb : b < 256) (h : a.toUInt8 = b.toUInt8) : a = b := by
  have h2 := congrArg UInt8.toNat h
  simp at h2
  omega

/-- No varint is the beginning of another. -/
theorem uvarint_split : ∀ (N x y : Nat) (r s : List UInt8), x ≤ N → Lib.uvarint x ++ r = Lib.uvarint y ++ s → x = y ∧ r = s
  | N, x, y, r, s, hN, h => by
    by_cases hx : x < 128
    · rw [Lib.uvarint_small hx] at h
      by_cases hy : y < 128
      · rw [Lib.uvarint_small hy] at h
        simp only [List.cons_append, List.nil_append, List.cons.injEq] at h
        exact ⟨toUInt8_inj (by omega) (by omega) h.1, h.2⟩
      · rw [Lib.uvarint_big (by omega)] at h
        simp only [List.cons_append, List.nil_append, List.cons.injEq] at h
        have := toUInt8_inj (by omega) (by omega) h.1
        omega
    · rw [Lib.uvarint_big (by omega)] at h
      by_cases hy : y < 128
      · rw [Lib.uvarint_small hy] at h
        simp only [List.cons_append, List.nil_append, List.cons.injEq] at h
        have := toUInt8_inj (by omega) (by omega) h.1
        omega
      · rw [Lib.uvarint_big (x := y) (by omega)] at h
        simp only [List.cons_append, List.cons.injEq] at h
        have h1 := toUInt8_inj (by omega) (by omega) h.1
        match N, hN with
        | 0, hN => omega
        | N + 1, hN =>
          obtain ⟨h2, h3⟩ := uvarint_split N (x / 128) (y / 128) r s (by omega) h.2
          exact ⟨by omega, h3⟩

theorem u64n_inj {a b : Int} (ha : -9223372036854775808 ≤ a ∧ a ≤ 9223372036854775807) (hb : -9223372036854775808 ≤ b ∧ b ≤ 9223372036854775807) (h : u64n a = u64n b) : a = b := by
  unfold u64n at h
  omega

theorem key_inj : ∀ (a b : List Int), (∀ z ∈ a, -9223372036854775808 ≤ z ∧ z ≤ 9223372036854775807) → (∀ z ∈ b, -9223372036854775808 ≤ z ∧ z ≤ 9223372036854775807) → key a = key b → a = b
  | [], [], _, _, _ => rfl
  | [], y :: s, _, _, h => by
    have h1 := Lib.uvarint_pos (u64n y)
    have h2 := congrArg List.length h
    simp only [key, List.length_nil, List.length_append] at h2
    omega
  | x :: r, [], _, _, h => by
    have h1 := Lib.uvarint_pos (u64n x)
    have h2 := congrArg List.length h
    simp only [key, List.length_nil, List.length_append] at h2
    omega
  | x :: r, y :: s, ha, hb, h => by
    obtain ⟨h1, h2⟩ := uvarint_split _ _ _ _ _ (Nat.le_refl _) h
    have e1 := u64n_inj (ha x (by simp)) (hb y (by simp)) h1
    have e2 := key_inj r s (fun z hz => ha z (by simp [hz])) (fun z hz => hb z (by simp [hz])) h2
    rw [e1, e2]

theorem IsInts.some_of_pos {w : World} {a : Option Addr} {n : Nat} {zs : List Int} (h : IsInts w a n zs) (h0 : 0 < n) :
    ∃ b off, a = some ⟨b, off, none⟩ ∧ b < w.heap.size ∧ ∀ i, i < n → w.cell? ⟨b, off + i, none⟩ = some (.int .i64 (zs.getD i 0)) := by
  rcases h.2.2 with h | h
  · omega
  · exact h

theorem key29_empty (a : Option Addr) (c : Nat) (w : World) :
    Calls Try.prog 29 #[.slice a 0 c] w fun e w' => e = .returned (.string ⟨(key []).toArray⟩) ∧ w' = w := by
  have conv := fun wx => run_convert_bytes_nil (P := Try.prog) wx 78 5 Try.underlying78 Try.underlying5 0 0 9 Try.underlying9
  go_enter Try.func29, Try.ntmps29
  go_wp2
  refine wp_loop_rounds 1 ?_
  rw [rounds_succ]
  go_wp2
  go_ret
  exact ⟨rfl, rfl⟩

theorem keyAny (a : Option Addr) (n c : Nat) (zs : List Int) (w : World) (hn : n ≤ 1048576) (h : IsInts w a n zs) :
    Calls Try.prog 22 #[.slice a n c] w fun e w' => ∃ S : ByteArray, e = .returned (.string S) ∧ S.data.toList = key zs ∧ n ≤ S.size ∧ S.size ≤ 10 * n ∧ Below w.heap.size w w' := by
  have hlen := key_length zs
  rw [h.1] at hlen
  have hsz : (⟨(key zs).toArray⟩ : ByteArray).size = (key zs).length := rfl
  by_cases h0 : n = 0
  · subst h0
    obtain rfl := List.eq_nil_of_length_eq_zero h.1
    go_enter Try.func22, Try.ntmps22
    go_wp2_with (go_at_call 29; refine (key29_empty _ _ _).mono ?_; rintro e w ⟨rfl, rfl⟩)
    go_ret
    exact ⟨_, rfl, rfl, Nat.zero_le _, Nat.zero_le _, Below.refl _ _⟩
  · obtain ⟨b, off, rfl, hb, hc⟩ := h.some_of_pos (by omega)
    have HC := show Hid _ from hc
    have HH := show Hid _ from h
    have HS := show Hid _ from hsz
    clear hc h hsz
    go_enter Try.func22, Try.ntmps22
    go_wp2_with (go_at_call 29; refine (key29 b off n c zs _ hn HH.out.1 hb HC.out).mono ?_; rintro e w1 ⟨rfl, hb1⟩)
    go_ret
    exact ⟨_, rfl, by simp, by rw [HS.out]; exact hlen.1, by rw [HS.out]; exact hlen.2, hb1⟩
end Go.Proofs.Qxb6604404a
