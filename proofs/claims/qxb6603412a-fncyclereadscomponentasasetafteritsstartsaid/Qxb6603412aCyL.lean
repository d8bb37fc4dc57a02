/-
  The walk of the first law.
-/
import Derived.Test.Qxb6603412aCyY
import Derived.Test.Qxb6603412aCyV
namespace Go.Proofs.Qxb6603412a
open Go.RowKit Go.Maps
set_option linter.unusedVariables false

theorem getD_of_mem {l : List Ed} {e : Ed} (h : e ∈ l) : ∃ i, 0 ≤ i ∧ i < l.length ∧ l.getD i (0, 0, 0) = e := by
  obtain ⟨i, hi, he⟩ := List.getElem_of_mem h
  exact ⟨i, Nat.zero_le _, hi, by rw [← he]; simp [List.getD_eq_getElem?_getD, List.getElem?_eq_getElem hi]⟩

def LenTo (g : List (List Ed)) (k : Nat) : Prop := ∀ i, i < k → (g.getD i []).length ≤ 1048576

set_option maxRecDepth 100000 in
set_option maxHeartbeats 8000000 in
theorem law5 (t x y : Value) (txns : List Int) (g : List (List Ed)) (comp : List Int) (w : World) (ht : IsInts w t txns) (hx : IsOut w x g) (hy : IsInts w y comp) :
    Calls Try.prog 5 #[t, x, y] w fun en w' => en = .returned (.bool true) ∧ Below w.heap.size w w' := by
  obtain ⟨a1, c1, rfl, _⟩ := ht.shape
  obtain ⟨a2, c2, rfl, _⟩ := hx.shape
  obtain ⟨a3, c3, rfl, _⟩ := hy.shape
  have HT := show Hid _ from ht
  have HX := show Hid _ from hx
  have HY := show Hid _ from hy
  have HX2 := hx
  clear ht hx hy
  go_enter Try.func5, Try.ntmps5
  go_wp2_with fail
  refine (bytes17 a1 txns.length c1 _ g a3 comp.length c3 w HX2).mono ?_
  rintro en w ⟨⟨q, rfl⟩, rfl⟩
  clear HX2
  cases q with
  | false =>
    go_wp2
    go_ret
    exact ⟨rfl, Below.refl _ _⟩
  | true =>
    by_cases h1 : txns.length ≤ 1048576
    case neg =>
      go_wp2
      go_ret
      exact ⟨rfl, Below.refl _ _⟩
    by_cases h2 : g.length ≤ 1048576
    case neg =>
      go_wp2
      go_ret
      exact ⟨rfl, Below.refl _ _⟩
    by_cases h3 : comp.length ≤ 1048576
    case neg =>
      go_wp2
      go_ret
      exact ⟨rfl, Below.refl _ _⟩
    by_cases h4 : 8 * txns.length + 8 * comp.length + 24 * g.length ≤ 1048576
    case neg =>
      go_wp2
      go_ret
      exact ⟨rfl, Below.refl _ _⟩
    go_wp2
    go_loop [7, 8] (fun z i => ∃ (k : Nat) (q : Int), k ≤ g.length ∧ i = .int .i64 k ∧ z = .int .i64 q ∧ 0 ≤ q ∧ q ≤ 1048576 ∧ Hid (LenTo g k)) (fun _ i => g.length - (intOf i).toNat)
    case atStart => exact ⟨0, _, Nat.zero_le _, rfl, rfl, by omega, by omega, fun i hi => absurd hi (Nat.not_lt_zero _)⟩
    case round =>
      obtain ⟨k, q, hk, rfl, rfl, hq0, hq1, hle⟩ := hrel
      clear h4
      by_cases hlt : k < g.length
      · have hxx : IsOut w (.slice a2 g.length c2) g := HX.out
        obtain ⟨b, off, c0, hx, hb, hc⟩ := hxx.pos (by omega)
        obtain ⟨y, c1, hy⟩ := hc k hlt
        obtain ⟨ay, cy, rfl, _⟩ := hy.shape
        have HL1 : Hid ((g.getD k []).length ≤ 1048576 → LenTo g (k + 1)) := by
          intro h i hi
          by_cases e : i = k
          · subst e; exact h
          · exact hle.out i (by omega)
        clear hc hy hxx
        generalize (g.getD k []).length = L at c1 HL1
        obtain rfl : a2 = some ⟨b, off, none⟩ := by simpa using congrArg (fun v => match v with | Value.slice a _ _ => a | _ => none) hx
        clear hx
        by_cases hL : L ≤ 1048576
        · have HL2 := show Hid _ from HL1.out hL
          clear HL1
          by_cases hL3 : q + 24 * L ≤ 1048576
          · go_wp2
            go_round
            case rel => exact ⟨k + 1, _, by omega, by go_num, rfl, by omega, by omega, HL2⟩
            case measure => simp [intOf]; omega
          · go_wp2
            go_ret
            exact ⟨rfl, Below.refl _ _⟩
        · clear HL1
          go_wp2
          go_ret
          exact ⟨rfl, Below.refl _ _⟩
      · have hkg : k = g.length := by omega
        have hlen : LenTo g g.length := by rw [← hkg]; exact hle.out
        have HLEN := show Hid _ from hlen
        clear hlen hle hkg
        go_wp2_with fail
        refine (clone18 _ txns _ h1 HT.out).mono ?_
        rintro en w1 ⟨t', rfl, ht1, hb1⟩
        obtain ⟨e1, f1, rfl, _⟩ := ht1.shape
        go_wp2_with fail
        refine (clone19 _ g _ h2 HLEN.out (IsOut.later HX.out hb1)).mono ?_
        rintro en w2 ⟨x', rfl, hx2, hb2⟩
        obtain ⟨e2, f2, rfl, _⟩ := hx2.shape
        have hbb2 := hb1.trans (hb2.mono hb1.size)
        have ht2 := ht1.later hb2
        clear ht1 hb1 hb2
        go_wp2_with fail
        refine (clone18 _ comp _ h3 (IsInts.later HY.out hbb2)).mono ?_
        rintro en w3 ⟨y', rfl, hy3, hb3⟩
        obtain ⟨e3, f3, rfl, _⟩ := hy3.shape
        have hbb3 := hbb2.trans (hb3.mono hbb2.size)
        have ht3 := ht2.later hb3
        have hx3 := hx2.later hb3
        clear ht2 hx2 hb3 hbb2
        go_wp2_with fail
        refine (sho20 _ _ g comp _ h2 h3 HLEN.out hx3 hy3).mono ?_
        rintro en w4 ⟨r, rfl, hbest, hb4⟩
        have HBE := show Hid _ from hbest
        have hbb4 := hbb3.trans (hb4.mono hbb3.size)
        have ht4 := ht3.later hb4
        have hx4 := hx3.later hb4
        have hy4 := hy3.later hb4
        clear ht3 hx3 hy3 hb4 hbb3 hbest
        by_cases hr : r < 0
        · go_wp2
          go_ret
          exact ⟨rfl, hbb4⟩
        · obtain ⟨hd, d, hrd, hcyc, hmin⟩ := HBE.out.resolve_left hr
          obtain ⟨K, e, v, R, K', l, hbfs, hback, hok, hmin2, hll⟩ := cycle_plain hd (fun x => decide (x ∈ comp)) (fun _ => rfl) d hcyc
          have hld : (l.reverse ++ [e]).length = d + 1 := by
            have i1 := hmin2 d hcyc
            have i2 := hmin _ (Ok.len _ _ 0 hok rfl)
            simp at i2 ⊢
            omega
          have hrl : r = ((l.reverse ++ [e]).length : Int) := by rw [hld]; omega
          have HRL := show Hid _ from hrl
          clear hrl hrd hld
          have hln : (l.reverse ++ [e]).length ≤ 1048577 := by simp; omega
          have hl0 : 0 < (l.reverse ++ [e]).length := by simp
          have HOK := show Hid _ from hok
          have HBF := show Hid _ from hbfs
          have HBK := show Hid _ from hback
          have HDO := show Hid _ from hd
          clear hok hbfs hback hd hcyc hmin hmin2 HBE
          go_wp2_with fail
          refine (graph22 _ _ txns g _ h1 ht4 h2 HLEN.out hx4).mono ?_
          rintro en w5 ⟨p, rfl, hp5, hb5⟩
          have hbb5 := hbb4.trans (hb5.mono hbb4.size)
          have hx5 := hx4.later hb5
          have hy5 := hy4.later hb5
          have hp6 := hp5
          obtain ⟨pb, _, rfl, _⟩ := hp6
          clear ht4 hx4 hy4 hb5 hbb4
          go_wp2_with fail
          refine (zzCycle21 _ _ g comp _ _ h2 h3 HLEN.out rfl HDO.out hp5 hy5 K e v R K' l HBF.out HBK.out hll).mono ?_
          rintro en w6 ⟨got, rfl, hg6, hb6⟩
          have hbb6 := hbb5.trans (hb6.mono hbb5.size)
          have hx6 := hx5.later hb6
          have hy6 := hy5.later hb6
          clear hx5 hy5 hb6 hbb5 hp5 HBF HBK hll
          have hrl : r = ((l.reverse ++ [e]).length : Int) := HRL.out
          clear HRL
          generalize l.reverse ++ [e] = les at hrl hln hl0 hg6 HOK
          subst hrl
          have hc0 : 0 < comp.length := by
            have hm := HDO.out.mem
            cases comp with
            | nil => exact absurd hm (by simp)
            | cons a b => simp
          have hg0 : 0 < g.length := by have := HDO.out.rng _ HDO.out.mem; omega
          obtain ⟨gb, gf, gc, rfl, hgb, hed⟩ := hg6.pos hl0
          have hgwf := hg6.1
          obtain ⟨cb, co, cc, hsy, hcb, hcomp⟩ := hy6.pos hc0
          obtain rfl : e3 = some ⟨cb, co, none⟩ := by simpa using congrArg (fun v => match v with | Value.slice a _ _ => a | _ => none) hsy
          obtain ⟨ob, oo, oc, hsx, hob, hout⟩ := hx6.pos hg0
          obtain rfl : e2 = some ⟨ob, oo, none⟩ := by simpa using congrArg (fun v => match v with | Value.slice a _ _ => a | _ => none) hsx
          have HC := show Hid _ from hcomp
          have HO := show Hid _ from hout
          have HE := show Hid _ from hed
          have HGW := show Hid _ from hgwf
          have HX6 := show Hid _ from hx6
          obtain ⟨s, HS⟩ : ∃ s, Hid (comp.getD 0 0 = s) := ⟨_, rfl⟩
          rw [HS.out] at HOK HDO
          obtain ⟨hs1, hs2⟩ := HDO.out.rng _ HDO.out.mem
          obtain ⟨sn, rfl⟩ := Int.eq_ofNat_of_zero_le hs1
          clear hcomp hout hed hgwf hx6 hy6 hg6 hsy hsx HT HX HY
          obtain ⟨i4, hi4, hz4, hz4', hz4''⟩ := info_parts Try.info4
          go_wp2_with (at_make; refine wpList_make_full w6 rfl _ _ 29 rfl w6.heap.size 4 i4 (.bool false) 1 Try.underlying29 hi4 hz4 hz4' .i64 .i64 _ _ g.length rfl rfl rfl rfl (by rw [hz4'']; omega) (by unfold maxLen; omega) (Nat.le_refl _) ?_; intro w7 hown7 hgrow7)
          have hb7 : Below w6.heap.size w6 w7 := (Below.refl _ _).grown hgrow7 (Nat.le_refl _) (by intro k hk; cases hk)
          have hO7 : w7.ownsRow w6.heap.size 4 1 (.slice (some ⟨w6.heap.size, 0, none⟩) g.length g.length) g.length ((inRow g.length (comp.take 0)).map Value.bool) := by
            have h := hown7
            rw [show Value.cells (.bool false) = #[.bool false] from rfl, toList_madeCells_one, Nat.mul_one] at h
            rw [List.take_zero, inRow_nil]
            exact h
          clear hown7 hgrow7 hi4 hz4 hz4' hz4''
          go_loopw [13] (fun i wr => ∃ q : Nat, q ≤ comp.length ∧ i = .int .i64 q ∧ wr.ownsRow w6.heap.size 4 1 (.slice (some ⟨w6.heap.size, 0, none⟩) g.length g.length) g.length ((inRow g.length (comp.take q)).map Value.bool) ∧ Below w6.heap.size w6 wr) (fun i _ => comp.length - (intOf i).toNat)
          case atStart => exact ⟨0, Nat.zero_le _, rfl, hO7, hb7⟩
          case round =>
            obtain ⟨q, hq, rfl, hown, hbr⟩ := hrel
            clear hO7 hb7
            by_cases hqm : q < comp.length
            · have hcx : wr.cell? ⟨cb, co + q, none⟩ = some (.int .i64 (comp.getD q 0)) := (hbr.cell (by exact hcb)).trans (HC.out q hqm)
              have hz := HDO.out.rng (comp.getD q 0) (by simp [List.getD_eq_getElem?_getD, List.getElem?_eq_getElem hqm])
              have htk : comp.take (q + 1) = comp.take q ++ [comp.getD q 0] := by
                rw [List.take_succ_eq_append_getElem (by omega)]
                simp [List.getD_eq_getElem?_getD, List.getElem?_eq_getElem hqm]
              generalize comp.getD q 0 = z at hcx hz htk
              obtain ⟨hz1, hz2⟩ := hz
              obtain ⟨zn, rfl⟩ := Int.eq_ofNat_of_zero_le hz1
              obtain ⟨qz, hic⟩ := icell' hown zn (by omega)
              have hfz := hown.frozenAt zn
              have hown2 := (hown.stored zn (.bool true)).1
              rw [inRow_set _ _ _ (by omega), ← htk] at hown2
              have hb2 := hbr.setCell (p := ⟨w6.heap.size, zn, none⟩) (Nat.le_refl _) (.bool true)
              have HO2 := show Hid _ from hown2
              clear htk hown hown2
              go_wp2
              go_roundw
              case rel => exact ⟨q + 1, by omega, by go_num, HO2.out, hb2⟩
              case measure => simp [intOf]; omega
            · rw [List.take_of_length_le (by omega)] at hown
              have hcz : wr.cell? ⟨cb, co, none⟩ = some (.int .i64 sn) := by
                have := (hbr.cell (p := ⟨cb, co + 0, none⟩) (by exact hcb)).trans (HC.out 0 hc0)
                rw [HS.out] at this
                simpa using this
              go_wp2
              go_loopw [15, 16] (fun cu i wr => ∃ (k cn : Nat), k ≤ les.length ∧ i = .int .i64 k ∧ cu = .int .i64 cn ∧ cn < g.length ∧ Hid (k < les.length → Ok g comp sn cn (les.drop k)) ∧ wr.ownsRow w6.heap.size 4 1 (.slice (some ⟨w6.heap.size, 0, none⟩) g.length g.length) g.length ((inRow g.length comp).map Value.bool) ∧ Below w6.heap.size w6 wr) (fun _ i _ => les.length - (intOf i).toNat)
              case atStart => exact ⟨0, sn, Nat.zero_le _, rfl, rfl, by omega, (fun _ => HOK.out), hown, hbr⟩
              case round =>
                obtain ⟨k, cn, hk, rfl, rfl, hcn, hok, hown8, hbr8⟩ := hrel
                clear hown hbr hcz
                by_cases hkl : k < les.length
                · obtain ⟨k0, k1, k2⟩ := HE.out k hkl
                  have hwe : EdWf (les.getD k (0, 0, 0)) := HGW.out _ (by simp [List.getD_eq_getElem?_getD, List.getElem?_eq_getElem hkl])
                  have hdr : les.drop k = les.getD k (0, 0, 0) :: les.drop (k + 1) := by
                    rw [List.drop_eq_getElem_cons hkl]
                    simp [List.getD_eq_getElem?_getD, List.getElem?_eq_getElem hkl]
                  have hok2 := hok.out hkl
                  rw [hdr] at hok2
                  generalize les.getD k (0, 0, 0) = ek at k0 k1 k2 hwe hok2
                  obtain ⟨ef, et, ep⟩ := ek
                  have q0 := (hbr8.cell (p := ⟨gb, gf + k * 3, none⟩) (by exact hgb)).trans k0
                  have q1 := (hbr8.cell (p := ⟨gb, gf + k * 3 + 1, none⟩) (by exact hgb)).trans k1
                  have q2 := (hbr8.cell (p := ⟨gb, gf + k * 3 + 2, none⟩) (by exact hgb)).trans k2
                  have hpart : ef = cn ∧ (ef, et, ep) ∈ gout g (cn : Int) := by
                    cases hrest : les.drop (k + 1) with
                    | nil => rw [hrest] at hok2; exact ⟨hok2.1, hok2.2.1⟩
                    | cons a b => rw [hrest] at hok2; exact ⟨hok2.1, hok2.2.1⟩
                  have hrl : (les.drop (k + 1)).length = les.length - (k + 1) := List.length_drop
                  have HCS : Hid ((k + 1 = les.length ∧ et = sn) ∨ (k + 1 < les.length ∧ et ≠ sn ∧ et ∈ comp ∧ Ok g comp sn et (les.drop (k + 1)))) := by
                    cases hrest : les.drop (k + 1) with
                    | nil =>
                      rw [hrest] at hok2 hrl
                      simp at hrl
                      exact .inl ⟨by omega, hok2.2.2⟩
                    | cons a b =>
                      rw [hrest] at hok2 hrl
                      simp at hrl
                      exact .inr ⟨by omega, hok2.2.2.1, hok2.2.2.2.1, hok2.2.2.2.2⟩
                  obtain ⟨rfl, hmem⟩ := hpart
                  have HIX : Hid (∃ i, 0 ≤ i ∧ i < (g.getD cn []).length ∧ (g.getD cn []).getD i (0, 0, 0) = ((cn : Int), et, ep)) := by
                    exact getD_of_mem hmem
                  have hel := HLEN.out cn hcn
                  obtain ⟨_, ⟨hw1, hw2⟩, ⟨hw3, hw4⟩⟩ := hwe
                  clear k0 k1 k2 hok hok2 hdr hrl hmem
                  go_wp2_with fail
                  refine (parts14 _ _ _ _).mono ?_
                  rintro en w9 ⟨rfl, hb9⟩
                  have hbr9 : Below w6.heap.size w6 w9 := hbr8.trans (hb9.mono hbr8.size)
                  have hown9 := own_below hown8 hb9 (by intro k hk; cases hk; exact (hown8.lt _ rfl).2)
                  obtain ⟨xv, co1, hes⟩ := HO.out cn hcn
                  have co2 : w9.cell? ⟨ob, oo + cn, none⟩ = some xv := (hbr9.cell (by exact hob)).trans co1
                  have hes9 := hes.later hbr9
                  obtain ⟨ae, ce, rfl, hae⟩ := hes.shape
                  generalize g.getD cn [] = es at co1 co2 hes hes9 hel HIX
                  have HES := show Hid _ from hes9
                  clear hes hes9 hae co1 hown8 hbr8 hb9 q0 q1 q2
                  go_wp2
                  go_loop [20, 21] (fun f i => ∃ j : Nat, j ≤ es.length ∧ f = .bool false ∧ i = .int .i64 j ∧ Hid (∃ i, j ≤ i ∧ i < es.length ∧ es.getD i (0, 0, 0) = ((cn : Int), et, ep))) (fun _ i => es.length - (intOf i).toNat)
                  case atStart => exact ⟨0, Nat.zero_le _, rfl, rfl, HIX⟩
                  case round =>
                    obtain ⟨j, hj, rfl, rfl, hex⟩ := hrel
                    clear HIX
                    have hjl : j < es.length := by obtain ⟨i, h1, h2, _⟩ := hex.out; omega
                    have hEW : IsEdges w9 (.slice ae es.length ce) es := HES.out
                    obtain ⟨eb, eo, ecap, hsl, hebl, hed⟩ := hEW.pos (by omega)
                    obtain ⟨k0, k1, k2⟩ := hed j hjl
                    have hwj : EdWf (es.getD j (0, 0, 0)) := hEW.1 _ (by simp [List.getD_eq_getElem?_getD, List.getElem?_eq_getElem hjl])
                    obtain rfl : ae = some ⟨eb, eo, none⟩ := by simpa using congrArg (fun v => match v with | Value.slice a _ _ => a | _ => none) hsl
                    have HNX : Hid (es.getD j (0, 0, 0) ≠ ((cn : Int), et, ep) → ∃ i, j + 1 ≤ i ∧ i < es.length ∧ es.getD i (0, 0, 0) = ((cn : Int), et, ep)) := by
                      intro h
                      obtain ⟨i, h1, h2, h3⟩ := hex.out
                      refine ⟨i, ?_, h2, h3⟩
                      by_cases e : i = j
                      · subst e; exact absurd h3 h
                      · omega
                    generalize es.getD j (0, 0, 0) = ej at k0 k1 k2 hwj HNX
                    obtain ⟨jf, jt, jp⟩ := ej
                    obtain ⟨_, ⟨hv1, hv2⟩, ⟨hv3, hv4⟩⟩ := hwj
                    clear hed hsl k0 hEW hex
                    by_cases hjt : jt = et
                    · by_cases hjp : jp = ep
                      · subst hjt
                        subst hjp
                        clear HNX
                        rcases HCS.out with ⟨hk1, hs⟩ | ⟨hk1, hne, hin, hok3⟩
                        · subst hs
                          have hkb : ((k : Int) == (les.length : Int) - 1) = true := by simp; omega
                          clear HCS
                          go_wp2
                          go_roundw
                          case rel => exact ⟨k + 1, sn, by omega, by go_num, rfl, by omega, (fun h => absurd h (by omega)), hown9, hbr9⟩
                          case measure => simp [intOf]; omega
                        · have hkb : ((k : Int) == (les.length : Int) - 1) = false := by simp; omega
                          obtain ⟨ht1, ht2⟩ := HDO.out.rng _ hin
                          obtain ⟨tn, rfl⟩ := Int.eq_ofNat_of_zero_le ht1
                          have hic := icell hown9 tn (by omega)
                          rw [decide_eq_true hin] at hic
                          have HOK3 := show Hid _ from hok3
                          have hne' : ((tn : Int) == (sn : Int)) = false := by simpa using hne
                          clear HCS hok3
                          go_wp2
                          go_roundw
                          case rel => exact ⟨k + 1, tn, by omega, by go_num, rfl, by omega, (fun _ => HOK3.out), hown9, hbr9⟩
                          case measure => simp [intOf]; omega
                      · subst hjt
                        have hjp' : (jp == ep) = false := by simpa using hjp
                        have HNX2 := show Hid _ from HNX.out (by intro h; injection h with _ h; injection h with _ h; exact hjp h)
                        clear HNX
                        go_wp2
                        go_round
                        case rel => exact ⟨j + 1, by omega, rfl, by go_num, HNX2⟩
                        case measure => simp [intOf]; omega
                    · have hjt' : (jt == et) = false := by simpa using hjt
                      have HNX2 := show Hid _ from HNX.out (by intro h; injection h with _ h; injection h with h _; exact hjt h)
                      clear HNX
                      go_wp2
                      go_round
                      case rel => exact ⟨j + 1, by omega, rfl, by go_num, HNX2⟩
                      case measure => simp [intOf]; omega
                · clear hok
                  go_wp2
                  go_ret
                  exact ⟨rfl, hbb6.trans (hbr8.mono hbb6.size)⟩
end Go.Proofs.Qxb6603412a
