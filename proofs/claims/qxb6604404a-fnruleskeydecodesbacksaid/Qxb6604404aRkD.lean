/-
  FnRulesKeyTellsListsApart: the walk.
-/
import Derived.Test.Qxb6604404aRkC
import Derived.Deep.QuietTactic
import Derived.BigQuiet
namespace Go.Proofs.Qxb6604404a
open Go.RowKit
set_option linter.unusedVariables false

theorem toList_of_data (S : ByteArray) : S.toList = S.data.toList := ByteArray.toList_eq S

theorem keys_eq (S T : ByteArray) (za zb : List Int) (hS : S.data.toList = key za) (hT : T.data.toList = key zb) (e : za = zb) : (S.toList == T.toList) = true := by
  rw [toList_of_data, toList_of_data, hS, hT, e]; simp

theorem keys_ne (S T : ByteArray) (za zb : List Int) (hS : S.data.toList = key za) (hT : T.data.toList = key zb)
    (ha : ∀ z ∈ za, -9223372036854775808 ≤ z ∧ z ≤ 9223372036854775807) (hb : ∀ z ∈ zb, -9223372036854775808 ≤ z ∧ z ≤ 9223372036854775807) (e : za ≠ zb) : (S.toList == T.toList) = false := by
  rw [toList_of_data, toList_of_data, hS, hT]
  rw [beq_eq_false_iff_ne]
  exact fun h => e (key_inj za zb ha hb h)

theorem take_next (za : List Int) (k : Nat) (hk : k < za.length) : za.take (k + 1) = za.take k ++ [za.getD k 0] := by
  rw [List.take_succ_eq_append_getElem hk]
  simp [List.getD_eq_getElem?_getD, List.getElem?_eq_getElem hk]

/-- What the loop's two variables say. -/
def Same (za zb : List Int) (k : Nat) (q : Bool) : Prop := (q = true → za.length = zb.length ∧ za.take k = zb.take k) ∧ (q = false → za ≠ zb)

theorem Same.yes {za zb : List Int} {k : Nat} (h : Same za zb k true) (hk : k < za.length) (e : za.getD k 0 = zb.getD k 0) : Same za zb (k + 1) true := by
  obtain ⟨h1, h2⟩ := h.1 rfl
  refine ⟨fun _ => ⟨h1, ?_⟩, fun h => by cases h⟩
  rw [take_next za k hk, take_next zb k (by omega), h2, e]

theorem Same.no {za zb : List Int} {k : Nat} (h : Same za zb k true) (e : za.getD k 0 ≠ zb.getD k 0) : Same za zb (k + 1) false :=
  ⟨fun h => (by cases h), fun _ h => e (by rw [h])⟩

theorem Same.fin {za zb : List Int} {k : Nat} (h : Same za zb k true) (hk : za.length ≤ k) : za = zb := by
  obtain ⟨h1, h2⟩ := h.1 rfl
  rw [List.take_of_length_le hk, List.take_of_length_le (by omega)] at h2
  exact h2

set_option maxRecDepth 100000 in
set_option maxHeartbeats 1600000 in
theorem law6_main (a : Option Addr) (n c : Nat) (a' : Option Addr) (n' c' : Nat) (za zb : List Int) (w : World) (g1 : n + n' ≤ 1048576) (g2 : n ≤ 65536) (g3 : n' ≤ 65536)
    (hc0 : a = none → n = 0 ∧ c = 0) (hc0' : a' = none → n' = 0 ∧ c' = 0) (h : IsInts w a n za) (h' : IsInts w a' n' zb) (q0 : Bool) (hq0 : ((n : Int) == (n' : Int)) = q0) :
    Calls Try.prog 6 #[.slice a n c, .slice a' n' c'] w fun e w' => e = .returned (.bool true) ∧ Below w.heap.size w w' := by
  have HC := show Hid _ from hc0
  have HC' := show Hid _ from hc0'
  have hs0 : Same za zb 0 q0 := by
    refine ⟨fun e => ⟨?_, rfl⟩, fun e he => ?_⟩
    · subst e; simp at hq0; rw [h.1, h'.1]; omega
    · subst e; simp at hq0; have e1 := h.1; have e2 := h'.1; rw [he] at e1; omega
  clear hc0 hc0'
  go_enter Try.func6, Try.ntmps6
  go_wp2_with (go_at_call 23; refine (bytes23_yes _ _ _ _ _ _ _ g1).mono ?_; rintro e w ⟨rfl, rfl⟩)
  refine (cloneAny a n c za _ (by omega) HC.out h).mono ?_
  rintro e w1 ⟨x, d, rfl, h1, hb1⟩
  have h1' := h'.later hb1
  clear h h'
  go_wp2_with fail
  refine (cloneAny a' n' c' zb _ (by omega) HC'.out h1').mono ?_
  rintro e w2 ⟨x', d', rfl, h2', hb2⟩
  have h2 := h1.later hb2
  clear h1 h1'
  go_wp2_with fail
  refine (keyAny x n d za _ (by omega) h2).mono ?_
  rintro e w3 ⟨S, rfl, hS, hS1, hS2, hb3⟩
  have h3 := h2.later hb3
  have h3' := h2'.later hb3
  have HS := show Hid _ from hS
  clear h2 h2' hS
  go_wp2_with fail
  refine (keyAny x' n' d' zb _ (by omega) h3').mono ?_
  rintro e w4 ⟨T, rfl, hT, hT1, hT2, hb4⟩
  have h4 := h3.later hb4
  have h4' := h3'.later hb4
  have HT := show Hid _ from hT
  clear h3 h3' hT
  have hbel : Below w.heap.size w w4 := ((hb1.trans (hb2.mono hb1.size)).trans (hb3.mono (Nat.le_trans hb1.size hb2.size))).trans (hb4.mono (Nat.le_trans (Nat.le_trans hb1.size hb2.size) hb3.size))
  clear hb1 hb2 hb3 hb4
  have hdT : decide ((T.size : Int) ≤ 10 * (n' : Int)) = true := decide_eq_true (by omega)
  go_wp2
  go_loopw [7, 8] (fun s i wr => ∃ (k m : Nat) (q : Bool), k ≤ n ∧ i = .int .i64 k ∧ s = .bool q ∧ Same za zb k q ∧ wr = w4.drewN m) (fun _ i _ => n - (intOf i).toNat)
  case atStart => exact ⟨0, 0, q0, Nat.zero_le _, rfl, by first | rfl | rw [hq0], hs0, rfl⟩
  case round =>
    obtain ⟨k, m, q, hk, rfl, rfl, hs, rfl⟩ := hrel
    cases q
    · have heq := keys_ne S T za zb HS.out HT.out h4.2.1 h4'.2.1 (hs.2 rfl)
      go_wp2
      go_ret
      exact ⟨rfl, below_drewN hbel m⟩
    · by_cases hlt : k < n
      · have hlt' : k < n' := by
          have := (hs.1 rfl).1
          rw [h4.1, h4'.1] at this
          omega
        obtain ⟨b, off, hx, hb, hc⟩ := h4.some_of_pos (by omega)
        obtain ⟨b', off', hx', hb', hc'⟩ := h4'.some_of_pos (by omega)
        have c1 := hc k hlt
        have c2 := hc' k hlt'
        have hlen : k < za.length := by rw [h4.1]; exact hlt
        have hyes := fun e => hs.yes hlen e
        have hno := fun e => hs.no e
        clear hc hc' hb hb' hs hlen
        generalize za.getD k 0 = u at c1 hyes hno
        generalize zb.getD k 0 = v at c2 hyes hno
        have l1 : (k : Int) < (n : Int) := by omega
        have l2 : (k : Int) < (n' : Int) := by omega
        subst hx hx'
        by_cases e : u = v
        · have S1 : Hid (Same za zb (k + 1) true) := hyes e
          clear hyes hno
          subst e
          go_wp2
          go_quiet (fail)
          go_wp2
          go_roundw
          case rel => exact ⟨k + 1, _, true, by omega, by go_num, rfl, S1, rfl⟩
          case measure => simp [intOf]; omega
        · have S1 : Hid (Same za zb (k + 1) false) := hno e
          have en : (u != v) = true := by simpa using e
          clear hyes hno
          go_wp2
          go_quiet (fail)
          go_wp2
          go_roundw
          case rel => exact ⟨k + 1, _, false, by omega, by go_num, rfl, S1, rfl⟩
          case measure => simp [intOf]; omega
      · have heq := keys_eq S T za zb HS.out HT.out (hs.fin (by rw [h4.1]; omega))
        go_wp2
        go_ret
        exact ⟨rfl, below_drewN hbel m⟩

theorem law6 (a : Option Addr) (n c : Nat) (a' : Option Addr) (n' c' : Nat) (za zb : List Int) (w : World) (hn : n ≤ maxLen) (hn' : n' ≤ maxLen)
    (hc0 : a = none → n = 0 ∧ c = 0) (hc0' : a' = none → n' = 0 ∧ c' = 0) (h : IsInts w a n za) (h' : IsInts w a' n' zb) :
    Calls Try.prog 6 #[.slice a n c, .slice a' n' c'] w fun e w' => e = .returned (.bool true) ∧ Below w.heap.size w w' := by
  by_cases g1 : n + n' ≤ 1048576
  · by_cases g2 : n ≤ 65536
    · by_cases g3 : n' ≤ 65536
      · exact law6_main a n c a' n' c' za zb w g1 g2 g3 hc0 hc0' h h' _ rfl
      · clear h h' hc0 hc0'
        go_enter Try.func6, Try.ntmps6
        go_wp2_with (go_at_call 23; refine (bytes23_yes _ _ _ _ _ _ _ g1).mono ?_; rintro e w ⟨rfl, rfl⟩)
        go_ret
        exact ⟨rfl, Below.refl _ _⟩
    · clear h h' hc0 hc0'
      go_enter Try.func6, Try.ntmps6
      go_wp2_with (go_at_call 23; refine (bytes23_yes _ _ _ _ _ _ _ g1).mono ?_; rintro e w ⟨rfl, rfl⟩)
      go_ret
      exact ⟨rfl, Below.refl _ _⟩
  · clear h h' hc0 hc0'
    go_enter Try.func6, Try.ntmps6
    go_wp2_with (go_at_call 23; refine (bytes23_no _ _ _ _ _ _ _ hn hn' g1).mono ?_; rintro e w ⟨rfl, rfl⟩)
    go_ret
    exact ⟨rfl, Below.refl _ _⟩

/-! ### From what the frame opens to what the walks want -/
def IsRow (k : IntKind) (w : World) (a : Option Addr) (len cap : Nat) (zs : List Int) : Prop :=
  (a = none ∧ len = 0 ∧ cap = 0 ∧ zs = []) ∨
  ∃ x, a = some x ∧ len ≤ cap ∧ cap ≤ maxLen ∧ zs.length = cap ∧ (∀ i, i < zs.length → w.cell? (x.add i) = some (.int k (zs.getD i 0))) ∧ ∀ n ∈ zs, (Lit.int k n).wf = true

theorem IsRow.len_le {k : IntKind} {w : World} {a : Option Addr} {len cap : Nat} {zs : List Int} (h : IsRow k w a len cap zs) : len ≤ maxLen := by
  rcases h with ⟨_, rfl, _, _⟩ | ⟨x, _, h1, h2, _⟩
  · exact Nat.zero_le _
  · exact Nat.le_trans h1 h2

theorem IsRow.nil {k : IntKind} {w : World} {a : Option Addr} {len cap : Nat} {zs : List Int} (h : IsRow k w a len cap zs) (e : a = none) : len = 0 ∧ cap = 0 := by
  rcases h with ⟨_, h1, h2, _⟩ | ⟨x, h0, _⟩
  · exact ⟨h1, h2⟩
  · rw [e] at h0; cases h0

theorem IsRow.ints {w : World} {a : Option Addr} {len cap : Nat} {zs : List Int} (h : IsRow .i64 w a len cap zs) : IsInts w a len (zs.take len) := by
  rcases h with ⟨_, rfl, _, rfl⟩ | ⟨⟨b, off, spot⟩, rfl, h1, h2, h3, h4, h5⟩
  · exact ⟨rfl, fun z hz => by simp at hz, .inl rfl⟩
  · refine ⟨by rw [List.length_take]; omega, fun z hz => ?_, ?_⟩
    · have := h5 z (List.mem_of_mem_take hz)
      simp [Lit.wf, IntKind.min, IntKind.max, IntKind.signed, IntKind.bits] at this
      omega
    · by_cases h0 : len = 0
      · exact .inl h0
      · right
        have hspot : spot = none := by simpa [Addr.add] using World.cell?_spot (h4 0 (by omega))
        subst hspot
        have hb : b < w.heap.size := by simpa [Addr.add] using World.block_lt_of_cell? w _ (h4 0 (by omega))
        refine ⟨b, off, rfl, hb, fun i hi => ?_⟩
        rw [← Go.WideShapes.add_plain, h4 i (by omega)]
        simp [List.getD_eq_getElem?_getD, List.getElem?_take_of_lt hi]
end Go.Proofs.Qxb6604404a
