/-
  zzSameStartAndSet: if it answers true, the two lists start alike and hold one set.
-/
import Derived.Test.Qxb6603412aCyX
import Derived.BigQuiet
namespace Go.Proofs.Qxb6603412a
open Go.RowKit Go.Maps
set_option linter.unusedVariables false

/-- What a 'true' of the test says. -/
def Alike (n : Nat) (c p : List Int) (q : Bool) : Prop := q = true → 0 < p.length ∧ p.getD 0 0 = c.getD 0 0 ∧ ∀ z, z ∈ p ↔ z ∈ c

def RngTo2 (comp : List Int) (n k : Nat) : Prop := ∀ j, j < k → 0 ≤ comp.getD j 0 ∧ comp.getD j 0 < (n : Int)

theorem alike_of {n : Nat} {c p : List Int} (hp : 0 < p.length) (h0 : p.getD 0 0 = c.getD 0 0) (hc : ∀ z ∈ c, 0 ≤ z ∧ z < (n : Int)) (hr : RngTo2 p n p.length) (h : ∀ v : Nat, v < n → (decide ((v : Int) ∈ c) = decide ((v : Int) ∈ p))) : Alike n c p true := by
  intro _
  refine ⟨hp, h0, fun z => ⟨fun hz => ?_, fun hz => ?_⟩⟩
  · obtain ⟨i, hi, rfl⟩ := List.getElem_of_mem hz
    have h1 := hr i hi
    simp only [List.getD_eq_getElem?_getD, List.getElem?_eq_getElem hi, Option.getD_some] at h1
    have h2 := h (p[i]).toNat (by omega)
    rw [Int.toNat_of_nonneg h1.1] at h2
    simpa [hz] using h2
  · have h1 := hc z hz
    have h2 := h z.toNat (by omega)
    rw [Int.toNat_of_nonneg h1.1] at h2
    simpa [hz] using h2.symm

def Same24 (n : Nat) (c p : List Int) (w : World) (en : Ending) (w' : World) : Prop := ∃ q : Bool, en = .returned (.bool q) ∧ Alike n c p q ∧ Below w.heap.size w w'

theorem Below.drewN' {B : Nat} {a w : World} (h : Below B a w) (n : Nat) : Below B a (w.drewN n) := ⟨h.os, h.tape, h.output, h.size, h.block⟩

set_option maxRecDepth 100000 in
set_option maxHeartbeats 4000000 in
theorem same24_some (n m k cb co cc pb po pc : Nat) (c p : List Int) (w : World) (hn : n ≤ 1048576) (hm : m ≤ 1048576) (hk : k ≤ 1048576) (hm0 : 1 ≤ m) (hk0 : 1 ≤ k) (hcl : m = c.length) (hpl : k = p.length)
    (hcb : cb < w.heap.size) (hpb : pb < w.heap.size) (hc : ∀ i, i < m → w.cell? ⟨cb, co + i, none⟩ = some (.int .i64 (c.getD i 0))) (hp : ∀ i, i < k → w.cell? ⟨pb, po + i, none⟩ = some (.int .i64 (p.getD i 0)))
    (hcr : ∀ z ∈ c, 0 ≤ z ∧ z < (n : Int)) (hpw : ∀ i, i < k → I64 (p.getD i 0)) :
    Calls Try.prog 24 #[.int .i64 n, .slice (some ⟨cb, co, none⟩) m cc, .slice (some ⟨pb, po, none⟩) k pc] w fun en w' => Same24 n c p w en w' := by
  have c0 : w.cell? ⟨cb, co, none⟩ = some (.int .i64 (c.getD 0 0)) := by simpa using hc 0 (by omega)
  have p0 : w.cell? ⟨pb, po, none⟩ = some (.int .i64 (p.getD 0 0)) := by simpa using hp 0 (by omega)
  have HC := show Hid _ from hc
  have HP := show Hid _ from hp
  have HCL := show Hid _ from hcl
  have HPL := show Hid _ from hpl
  have HCR := show Hid _ from hcr
  have HPW := show Hid _ from hpw
  obtain ⟨s, HS⟩ : ∃ s, Hid (c.getD 0 0 = s) := ⟨_, rfl⟩
  obtain ⟨t, HT⟩ : ∃ t, Hid (p.getD 0 0 = t) := ⟨_, rfl⟩
  rw [HS.out] at c0
  rw [HT.out] at p0
  clear hc hp hcl hpl hcr hpw
  have kz : ((k : Int) == 0) = false := by simp; omega
  have mz : ((m : Int) == 0) = false := by simp; omega
  have kp : (0 : Int) < k := by omega
  have mp : (0 : Int) < m := by omega
  by_cases hst : t = s
  · subst hst
    go_enter Try.func24, Try.ntmps24
    go_wp2
    go_quiet (fail)
    go_wp2
    have hbq : Below w.heap.size w (w.drewN nq) := Below.drewN' (Below.refl _ _) _
    generalize w.drewN nq = w1 at hbq
    have hw1 := hbq.size
    clear c0 p0 kz mz kp mp
    go_loop [7] (fun i => ∃ j : Nat, j ≤ k ∧ i = .int .i64 j ∧ Hid (RngTo2 p n j)) (fun i => k - (intOf i).toNat)
    case atStart => exact ⟨0, Nat.zero_le _, rfl, fun j hj => absurd hj (Nat.not_lt_zero _)⟩
    case round =>
      obtain ⟨j, hj, rfl, hrg⟩ := hrel
      by_cases hlt : j < k
      · have hcx : w1.cell? ⟨pb, po + j, none⟩ = some (.int .i64 (p.getD j 0)) := (hbq.cell (by exact hpb)).trans (HP.out j hlt)
        have hwz := HPW.out j hlt
        have HN1 : Hid (0 ≤ p.getD j 0 ∧ p.getD j 0 < (n : Int) → RngTo2 p n (j + 1)) := by
          intro h i hi
          by_cases e : i = j
          · subst e; exact h
          · exact hrg.out i (by omega)
        generalize p.getD j 0 = z at hcx hwz HN1
        obtain ⟨hw2, hw3⟩ := hwz
        by_cases h0 : z < 0
        · clear HN1
          go_wp2
          go_ret
          exact ⟨false, rfl, (fun h => by cases h), hbq⟩
        · by_cases h1 : z < n
          · have HN2 := show Hid _ from HN1.out ⟨by omega, h1⟩
            clear HN1
            go_wp2
            go_round
            case rel => exact ⟨j + 1, by omega, by go_num, HN2⟩
            case measure => simp [intOf]; omega
          · clear HN1
            go_wp2
            go_ret
            exact ⟨false, rfl, (fun h => by cases h), hbq⟩
      · have hkj : k = j := by omega
        subst hkj
        have HPR : Hid (∀ z ∈ p, 0 ≤ z ∧ z < (n : Int)) := by
          intro z hz
          obtain ⟨i, hi, rfl⟩ := List.getElem_of_mem hz
          have := hrg.out i (by have := HPL.out; omega)
          simpa [List.getD_eq_getElem?_getD, List.getElem?_eq_getElem hi] using this
        obtain ⟨i4, hi4, hz4, hz4', hz4''⟩ := info_parts Try.info4
        go_wp2_with (first
          | (at_make; refine wpList_make_full w1 rfl _ _ 29 rfl w.heap.size 4 i4 (.bool false) 1 Try.underlying29 hi4 hz4 hz4' .i64 .i64 _ _ n rfl rfl rfl rfl (by rw [hz4'']; omega) (by unfold maxLen; omega) hw1 ?_; intro w2 hown2 hgrow2; have hw2 : w.heap.size ≤ w2.heap.size := Nat.le_trans hw1 hgrow2.size)
          | (at_make; refine wpList_make_full w2 rfl _ _ 29 rfl w.heap.size 4 i4 (.bool false) 1 Try.underlying29 hi4 hz4 hz4' .i64 .i64 _ _ n rfl rfl rfl rfl (by rw [hz4'']; omega) (by unfold maxLen; omega) hw2 ?_; intro w3 hown3 hgrow3))
        have hb3 : Below w.heap.size w w3 := (hbq.grown hgrow2 hw1 (by intro k hk; cases hk)).grown hgrow3 hw2 (by intro k hk; cases hk)
        have hlt2 : w1.heap.size < w2.heap.size := (hown2.lt _ rfl).2
        have hO2 : w3.ownsRow w.heap.size 4 1 (.slice (some ⟨w1.heap.size, 0, none⟩) n n) n ((inRow n (c.take 0)).map Value.bool) := by
          have h := hown2.kept hgrow3 (.inr (by simp [Value.ownBlock]))
          rw [show Value.cells (.bool false) = #[.bool false] from rfl, toList_madeCells_one, Nat.mul_one] at h
          rw [List.take_zero, inRow_nil]
          exact h
        have hO3 : w3.ownsRow w.heap.size 4 1 (.slice (some ⟨w2.heap.size, 0, none⟩) n n) n ((inRow n (p.take 0)).map Value.bool) := by
          have h := hown3
          rw [show Value.cells (.bool false) = #[.bool false] from rfl, toList_madeCells_one, Nat.mul_one] at h
          rw [List.take_zero, inRow_nil]
          exact h
        generalize w1.heap.size = b1 at hO2 hlt2 hw1
        generalize w2.heap.size = b2 at hO3 hlt2 hw2
        clear hown2 hown3 hgrow2 hgrow3 hi4 hz4 hz4' hz4'' hbq
        go_loopw [10] (fun i wr => ∃ q : Nat, q ≤ m ∧ i = .int .i64 q ∧ wr.ownsRow w.heap.size 4 1 (.slice (some ⟨b1, 0, none⟩) n n) n ((inRow n (c.take q)).map Value.bool) ∧ wr.ownsRow w.heap.size 4 1 (.slice (some ⟨b2, 0, none⟩) n n) n ((inRow n (p.take 0)).map Value.bool) ∧ Below w.heap.size w wr) (fun i _ => m - (intOf i).toNat)
        case atStart => exact ⟨0, Nat.zero_le _, rfl, hO2, hO3, hb3⟩
        case round =>
          obtain ⟨q, hq, rfl, hown, hownP, hbr⟩ := hrel
          clear hO2 hO3 hb3
          by_cases hqm : q < m
          · have hcx : wr.cell? ⟨cb, co + q, none⟩ = some (.int .i64 (c.getD q 0)) := (hbr.cell (by exact hcb)).trans (HC.out q hqm)
            have hl := HCL.out
            have hz := HCR.out (c.getD q 0) (by simp [List.getD_eq_getElem?_getD, List.getElem?_eq_getElem (show q < c.length by omega)])
            have htk : c.take (q + 1) = c.take q ++ [c.getD q 0] := by
              rw [List.take_succ_eq_append_getElem (by omega)]
              simp [List.getD_eq_getElem?_getD, List.getElem?_eq_getElem (show q < c.length by omega)]
            generalize c.getD q 0 = z at hcx hz htk
            obtain ⟨hz1, hz2⟩ := hz
            obtain ⟨zn, rfl⟩ := Int.eq_ofNat_of_zero_le hz1
            obtain ⟨qz, hic⟩ := icell' hown zn (by omega)
            have hfz := hown.frozenAt zn
            have hst2 := hown.stored zn (.bool true)
            have hown2 := hst2.1
            rw [inRow_set _ _ _ (by omega), ← htk] at hown2
            have hownP2 := hownP.kept hst2.2 (.inr (by simp [Value.ownBlock]; omega))
            have hb2 := hbr.setCell (p := ⟨b1, zn, none⟩) hw1 (.bool true)
            have HO2 := show Hid _ from hown2
            have HO3 := show Hid _ from hownP2
            clear htk hown hown2 hl hownP hownP2 hst2
            go_wp2
            go_roundw
            case rel => exact ⟨q + 1, by omega, by go_num, HO2.out, HO3.out, hb2⟩
            case measure => simp [intOf]; omega
          · rw [List.take_of_length_le (by have := HCL.out; omega)] at hown
            skip
            go_wp2
            go_loopw [11] (fun i wr => ∃ q : Nat, q ≤ k ∧ i = .int .i64 q ∧ wr.ownsRow w.heap.size 4 1 (.slice (some ⟨b1, 0, none⟩) n n) n ((inRow n c).map Value.bool) ∧ wr.ownsRow w.heap.size 4 1 (.slice (some ⟨b2, 0, none⟩) n n) n ((inRow n (p.take q)).map Value.bool) ∧ Below w.heap.size w wr) (fun i _ => k - (intOf i).toNat)
            case atStart => exact ⟨0, Nat.zero_le _, rfl, hown, hownP, hbr⟩
            case round =>
              obtain ⟨q, hq, rfl, hown4, hownP4, hbr4⟩ := hrel
              clear hown hownP hbr
              by_cases hqm : q < k
              · have hcx : wr.cell? ⟨pb, po + q, none⟩ = some (.int .i64 (p.getD q 0)) := (hbr4.cell (by exact hpb)).trans (HP.out q hqm)
                have hl := HPL.out
                have hz := HPR.out (p.getD q 0) (by simp [List.getD_eq_getElem?_getD, List.getElem?_eq_getElem (show q < p.length by omega)])
                have htk : p.take (q + 1) = p.take q ++ [p.getD q 0] := by
                  rw [List.take_succ_eq_append_getElem (by omega)]
                  simp [List.getD_eq_getElem?_getD, List.getElem?_eq_getElem (show q < p.length by omega)]
                generalize p.getD q 0 = z at hcx hz htk
                obtain ⟨hz1, hz2⟩ := hz
                obtain ⟨zn, rfl⟩ := Int.eq_ofNat_of_zero_le hz1
                obtain ⟨qz, hic⟩ := icell' hownP4 zn (by omega)
                have hfz := hownP4.frozenAt zn
                have hst2 := hownP4.stored zn (.bool true)
                have hown2 := hst2.1
                rw [inRow_set _ _ _ (by omega), ← htk] at hown2
                have hownP2 := hown4.kept hst2.2 (.inr (by simp [Value.ownBlock]; omega))
                have hb2 := hbr4.setCell (p := ⟨b2, zn, none⟩) hw2 (.bool true)
                have HO2 := show Hid _ from hown2
                have HO3 := show Hid _ from hownP2
                clear htk hown4 hown2 hl hownP4 hownP2 hst2
                go_wp2
                go_roundw
                case rel => exact ⟨q + 1, by omega, by go_num, HO3.out, HO2.out, hb2⟩
                case measure => simp [intOf]; omega
              · rw [List.take_of_length_le (by have := HPL.out; omega)] at hownP4
                skip
                go_wp2
                go_loopw [12] (fun i wr => ∃ v : Nat, v ≤ n ∧ i = .int .i64 v ∧ wr.ownsRow w.heap.size 4 1 (.slice (some ⟨b1, 0, none⟩) n n) n ((inRow n c).map Value.bool) ∧ wr.ownsRow w.heap.size 4 1 (.slice (some ⟨b2, 0, none⟩) n n) n ((inRow n p).map Value.bool) ∧ Below w.heap.size w wr ∧ Hid (∀ u : Nat, u < v → (decide ((u : Int) ∈ c) = decide ((u : Int) ∈ p)))) (fun i _ => n - (intOf i).toNat)
                case atStart => exact ⟨0, Nat.zero_le _, rfl, hown4, hownP4, hbr4, fun u hu => absurd hu (Nat.not_lt_zero _)⟩
                case round =>
                  obtain ⟨v, hv, rfl, hown5, hownP5, hbr5, hal⟩ := hrel
                  clear hown4 hownP4 hbr4
                  by_cases hvn : v < n
                  · have hx1 := icell hown5 v hvn
                    have hx2 := icell hownP5 v hvn
                    have HAL : Hid (decide ((v : Int) ∈ c) = decide ((v : Int) ∈ p) → ∀ u : Nat, u < v + 1 → (decide ((u : Int) ∈ c) = decide ((u : Int) ∈ p))) := by
                      intro h u hu
                      by_cases e : u = v
                      · subst e; exact h
                      · exact hal.out u (by omega)
                    generalize decide ((v : Int) ∈ c) = d1 at hx1 HAL
                    generalize decide ((v : Int) ∈ p) = d2 at hx2 HAL
                    by_cases hdd : d1 = d2
                    · have HAL2 := show Hid _ from HAL.out hdd
                      subst hdd
                      clear HAL hal
                      go_wp2
                      go_quiet (fail)
                      go_wp2
                      go_roundw
                      case rel => exact ⟨v + 1, by omega, by go_num, hown5, hownP5, Below.drewN' hbr5 _, HAL2⟩
                      case measure => simp [intOf]; omega
                    · have hdd' : (d1 == d2) = false := by simpa using hdd
                      clear HAL hal
                      go_wp2
                      go_quiet (fail)
                      go_wp2
                      go_ret
                      exact ⟨false, rfl, (fun h => by cases h), Below.drewN' hbr5 _⟩
                  · have HA : Hid (Alike n c p true) := by
                      have e : v = n := by omega
                      rw [e] at hal
                      exact alike_of (by have := HPL.out; omega) (by rw [HS.out, HT.out]) HCR.out (by have := hrg.out; rwa [HPL.out] at this) hal.out
                    clear hal hown5 hownP5
                    go_wp2
                    go_ret
                    exact ⟨true, rfl, HA.out, hbr5⟩
  · have hst' : (t == s) = false := by simpa using hst
    go_enter Try.func24, Try.ntmps24
    go_wp2
    go_quiet (fail)
    go_wp2
    go_ret
    exact ⟨false, rfl, (fun h => by cases h), Below.drewN' (Below.refl _ _) _⟩

set_option maxRecDepth 100000 in
set_option maxHeartbeats 1600000 in
theorem same24_nil (n : Nat) (y : Value) (c p : List Int) (ap : Option Addr) (cp : Nat) (w : World) (hy : IsInts w y c) :
    Calls Try.prog 24 #[.int .i64 n, y, .slice ap 0 cp] w fun en w' => Same24 n c p w en w' := by
  obtain ⟨a, cc, rfl, _⟩ := hy.shape
  go_enter Try.func24, Try.ntmps24
  go_wp2
  go_quiet (fail)
  go_wp2
  go_ret
  exact ⟨false, rfl, (fun h => by cases h), Below.drewN' (Below.refl _ _) _⟩

theorem same24 (n : Nat) (y z : Value) (c p : List Int) (w : World) (hn : n ≤ 1048576) (hm : c.length ≤ 1048576) (hk : p.length ≤ 1048576) (hc0 : 0 < c.length) (hcr : ∀ x ∈ c, 0 ≤ x ∧ x < (n : Int)) (hy : IsInts w y c) (hz : IsInts w z p) :
    Calls Try.prog 24 #[.int .i64 n, y, z] w fun en w' => Same24 n c p w en w' := by
  by_cases h0 : p.length = 0
  · obtain ⟨ay, cy, rfl, _⟩ := hz.shape
    rw [h0]
    exact same24_nil n y c p ay cy w hy
  · obtain ⟨cb, co, cc, rfl, hcb, hc⟩ := hy.pos hc0
    obtain ⟨pb, po, pc, rfl, hpb, hp⟩ := hz.pos (by omega)
    refine same24_some n c.length p.length cb co cc pb po pc c p w hn hm hk hc0 (by omega) rfl rfl hcb hpb hc hp hcr ?_
    intro i hi
    exact hz.1 _ (by simp [List.getD_eq_getElem?_getD, List.getElem?_eq_getElem hi])
end Go.Proofs.Qxb6603412a
