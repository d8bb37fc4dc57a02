/-
  FnRulesKeyDecodesBack: what the decoding loop rests on, without the walk.
-/
import Derived.Test.Qxb6604404aRkD
import Derived.Laws.BitsLemmas
import Derived.Lib.Strings
namespace Go.Proofs.Qxb6604404a
open Go.RowKit
set_option linter.unusedVariables false

theorem or_step (G B s : Nat) (hG : G < 2 ^ s) (hB : B < 256) (hx : G + (B % 128) * 2 ^ s < 18446744073709551616) :
    bits BinOp.or IntKind.u64 (G : Int) (IntKind.u64.wrap (IntKind.u64.wrap (bits BinOp.and IntKind.u8 (B : Int) 127) * 2 ^ s)) = ((G + (B % 128) * 2 ^ s : Nat) : Int) := by
  have h1 : bits BinOp.and IntKind.u8 (B : Int) 127 = ((B % 128 : Nat) : Int) := by
    have h := bits_mask .u8 8 (by decide) wraps_u8 7 (by decide) (B : Int) (by omega) (by omega)
    have e : ((2 : Int) ^ 7 - 1) = 127 := by decide
    have e' : ((2 : Int) ^ 7) = 128 := by decide
    rw [e, e'] at h
    rw [h]
    omega
  have h2 : IntKind.u64.wrap ((B % 128 : Nat) : Int) = ((B % 128 : Nat) : Int) := IntWalk.u64_in _ ⟨by omega, by omega⟩
  have hc : ((B % 128 : Nat) : Int) * 2 ^ s = (((B % 128) * 2 ^ s : Nat) : Int) := by rw [Int.natCast_mul, Int.natCast_pow]; rfl
  have h3 : IntKind.u64.wrap (((B % 128) * 2 ^ s : Nat) : Int) = (((B % 128) * 2 ^ s : Nat) : Int) := IntWalk.u64_in _ ⟨by omega, by omega⟩
  rw [h1, h2, hc, h3]
  have h4 := (bits_nat .u64 64 (by decide) (fun n h0 h1 => IntWalk.u64_in n ⟨by omega, by omega⟩) G ((B % 128) * 2 ^ s) (by omega) (by omega)).2
  rw [h4]
  have h5 := Nat.shiftLeft_add_eq_or_of_lt hG (B % 128)
  rw [Nat.shiftLeft_eq] at h5
  rw [Nat.or_comm, ← h5, Nat.add_comm]

theorem or_step63 (G Y X s : Nat) (hs : s = 63)
    (h : bits BinOp.or IntKind.u64 (G : Int) (IntKind.u64.wrap (IntKind.u64.wrap (bits BinOp.and IntKind.u8 (Y : Int) 127) * 2 ^ s)) = (X : Int))
    (hb : (bits BinOp.or IntKind.u64 (G : Int) (IntKind.u64.wrap (IntKind.u64.wrap (bits BinOp.and IntKind.u8 (Y : Int) 127) * 9223372036854775808)) != (X : Int)) = true) : False := by
  have e : ((2 : Int) ^ s) = 9223372036854775808 := by rw [hs]; decide
  rw [e] at h
  rw [h] at hb
  simp at hb

theorem byteAt (S : ByteArray) (i : Nat) (h : i < S.size) (b : UInt8) (r : List UInt8) (e : S.data.toList.drop i = b :: r) : (S[i]'h).toNat = b.toNat := by
  have h' : i < S.data.toList.length := by rw [← Lib.size_eq]; exact h
  rw [List.drop_eq_getElem_cons h'] at e
  have e1 := (List.cons.inj e).1
  rw [← e1]
  rfl

theorem drop_next {l : List UInt8} {i : Nat} {b : UInt8} {r : List UInt8} (e : l.drop i = b :: r) : l.drop (i + 1) = r := by
  have h := congrArg (List.drop 1) e
  rw [List.drop_drop] at h
  simpa using h

theorem drop_lt {l : List UInt8} {i : Nat} {b : UInt8} {r : List UInt8} (e : l.drop i = b :: r) : i < l.length := by
  have h := congrArg List.length e
  simp only [List.length_drop, List.length_cons] at h
  omega

/-- Where the decoding of x stands behind m bytes: G is read, Y is still to come, at place p of the key. -/
structure Dec (l : List UInt8) (p x m s G Y : Nat) (rest : List UInt8) : Prop where
  hs : s = 7 * m
  hm : m ≤ 9
  hx : x = G + Y * 2 ^ s
  hG : G < 2 ^ s
  hY : 1 ≤ m → 1 ≤ Y
  hl : l.drop (p + m) = Lib.uvarint Y ++ rest
  hn : (Lib.uvarint x).length = m + (Lib.uvarint Y).length

theorem Dec.start {l : List UInt8} {p x : Nat} {rest : List UInt8} (h : l.drop p = Lib.uvarint x ++ rest) : Dec l p x 0 0 0 x rest :=
  ⟨rfl, by omega, by simp, by simp, by omega, h, by simp⟩

theorem pow_s (s m : Nat) (h : s = 7 * m) : 2 ^ (s + 7) = 2 ^ s * 128 := by rw [Nat.pow_add]

theorem two_pow63 : (2 : Nat) ^ 63 = 9223372036854775808 := by decide

theorem Dec.big_m {l : List UInt8} {p x m s G Y : Nat} {rest : List UInt8} (h : Dec l p x m s G Y rest) (hx : x < 18446744073709551616) (hY : 2 ≤ Y) : m ≤ 8 := by
  rcases Nat.lt_or_ge m 9 with h1 | h1
  · omega
  · have hm9 : m = 9 := by have := h.hm; omega
    have hs63 : s = 63 := by rw [h.hs, hm9]
    have e := h.hx
    rw [hs63, two_pow63] at e
    omega

theorem Dec.next {l : List UInt8} {p x m s G Y : Nat} {rest : List UInt8} (h : Dec l p x m s G Y rest) (hx : x < 18446744073709551616) (hY : 128 ≤ Y) :
    Dec l p x (m + 1) (s + 7) (G + ((Y % 128 + 128) % 128) * 2 ^ s) (Y / 128) rest := by
  have hm := h.big_m hx (by omega)
  have hd := Nat.div_add_mod Y 128
  have e1 : (Y % 128 + 128) % 128 = Y % 128 := by omega
  have hl := h.hl
  rw [Lib.uvarint_big hY] at hl
  refine ⟨by rw [h.hs]; omega, by omega, ?_, ?_, by omega, ?_, ?_⟩
  · rw [h.hx, e1, pow_s s m h.hs]
    have e2 : Y * 2 ^ s = (128 * (Y / 128) + Y % 128) * 2 ^ s := by rw [hd]
    rw [e2, Nat.add_mul, Nat.mul_comm (2 ^ s) 128, ← Nat.mul_assoc, Nat.mul_comm (Y / 128) 128]
    omega
  · rw [e1, pow_s s m h.hs]
    have hG := h.hG
    have : (Y % 128) * 2 ^ s ≤ 127 * 2 ^ s := Nat.mul_le_mul_right _ (by omega)
    omega
  · rw [← Nat.add_assoc]
    exact drop_next hl
  · have := h.hn
    rw [Lib.uvarint_big hY, List.length_cons] at this
    omega

end Go.Proofs.Qxb6604404a
