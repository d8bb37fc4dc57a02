/-
  The walk of the second law.
-/
import Derived.Test.Qxb6603412aCyL
import Derived.Test.Qxb6603412aCyZ
namespace Go.Proofs.Qxb6603412a
open Go.RowKit Go.Maps
set_option linter.unusedVariables false

set_option maxRecDepth 100000 in
set_option maxHeartbeats 8000000 in
theorem law6 (t x y z : Value) (txns : List Int) (g : List (List Ed)) (comp perm : List Int) (w : World) (ht : IsInts w t txns) (hx : IsOut w x g) (hy : IsInts w y comp) (hz : IsInts w z perm) :
    Calls Try.prog 6 #[t, x, y, z] w fun en w' => en = .returned (.bool true) ∧ Below w.heap.size w w' := by
  obtain ⟨a1, c1, rfl, _⟩ := ht.shape
  obtain ⟨a2, c2, rfl, _⟩ := hx.shape
  obtain ⟨a3, c3, rfl, _⟩ := hy.shape
  obtain ⟨a4, c4, rfl, _⟩ := hz.shape
  have HT := show Hid _ from ht
  have HX := show Hid _ from hx
  have HY := show Hid _ from hy
  have HZ := show Hid _ from hz
  have HX2 := hx
  clear ht hx hy hz
  go_enter Try.func6, Try.ntmps6
  go_wp2_with fail
  refine (bytes23 a1 txns.length c1 _ g a3 comp.length c3 a4 perm.length c4 w HX2).mono ?_
  rintro en w ⟨⟨q, rfl⟩, rfl⟩
  clear HX2
  cases q with
  | false =>
    go_wp2
    go_ret
    exact ⟨rfl, Below.refl _ _⟩
  | true =>
    by_cases h1 : txns.length ≤ 1048576
    case neg =>
      go_wp2
      go_ret
      exact ⟨rfl, Below.refl _ _⟩
    by_cases h2 : g.length ≤ 1048576
    case neg =>
      go_wp2
      go_ret
      exact ⟨rfl, Below.refl _ _⟩
    by_cases h3 : comp.length ≤ 1048576
    case neg =>
      go_wp2
      go_ret
      exact ⟨rfl, Below.refl _ _⟩
    by_cases h3' : perm.length ≤ 1048576
    case neg =>
      go_wp2
      go_ret
      exact ⟨rfl, Below.refl _ _⟩
    by_cases h4 : 8 * txns.length + 8 * comp.length + 8 * perm.length + 24 * g.length ≤ 1048576
    case neg =>
      go_wp2
      go_ret
      exact ⟨rfl, Below.refl _ _⟩
    go_wp2
    go_loop [9, 10] (fun z i => ∃ (k : Nat) (q : Int), k ≤ g.length ∧ i = .int .i64 k ∧ z = .int .i64 q ∧ 0 ≤ q ∧ q ≤ 1048576 ∧ Hid (LenTo g k)) (fun _ i => g.length - (intOf i).toNat)
    case atStart => exact ⟨0, _, Nat.zero_le _, rfl, rfl, by omega, by omega, fun i hi => absurd hi (Nat.not_lt_zero _)⟩
    case round =>
      obtain ⟨k, q, hk, rfl, rfl, hq0, hq1, hle⟩ := hrel
      clear h4
      by_cases hlt : k < g.length
      · have hxx : IsOut w (.slice a2 g.length c2) g := HX.out
        obtain ⟨b, off, c0, hx, hb, hc⟩ := hxx.pos (by omega)
        obtain ⟨y, c1, hy⟩ := hc k hlt
        obtain ⟨ay, cy, rfl, _⟩ := hy.shape
        have HL1 : Hid ((g.getD k []).length ≤ 1048576 → LenTo g (k + 1)) := by
          intro h i hi
          by_cases e : i = k
          · subst e; exact h
          · exact hle.out i (by omega)
        clear hc hy hxx
        generalize (g.getD k []).length = L at c1 HL1
        obtain rfl : a2 = some ⟨b, off, none⟩ := by simpa using congrArg (fun v => match v with | Value.slice a _ _ => a | _ => none) hx
        clear hx
        by_cases hL : L ≤ 1048576
        · have HL2 := show Hid _ from HL1.out hL
          clear HL1
          by_cases hL3 : q + 24 * L ≤ 1048576
          · go_wp2
            go_round
            case rel => exact ⟨k + 1, _, by omega, by go_num, rfl, by omega, by omega, HL2⟩
            case measure => simp [intOf]; omega
          · go_wp2
            go_ret
            exact ⟨rfl, Below.refl _ _⟩
        · clear HL1
          go_wp2
          go_ret
          exact ⟨rfl, Below.refl _ _⟩
      · have hkg : k = g.length := by omega
        have hlen : LenTo g g.length := by rw [← hkg]; exact hle.out
        have HLEN := show Hid _ from hlen
        clear hlen hle hkg
        go_wp2_with fail
        refine (clone18 _ txns _ h1 HT.out).mono ?_
        rintro en w1 ⟨t', rfl, ht1, hb1⟩
        obtain ⟨e1, f1, rfl, _⟩ := ht1.shape
        go_wp2_with fail
        refine (clone19 _ g _ h2 HLEN.out (IsOut.later HX.out hb1)).mono ?_
        rintro en w2 ⟨x', rfl, hx2, hb2⟩
        obtain ⟨e2, f2, rfl, _⟩ := hx2.shape
        have hbb2 := hb1.trans (hb2.mono hb1.size)
        have ht2 := ht1.later hb2
        clear ht1 hb1 hb2
        go_wp2_with fail
        refine (clone18 _ comp _ h3 (IsInts.later HY.out hbb2)).mono ?_
        rintro en w3 ⟨y', rfl, hy3, hb3⟩
        obtain ⟨e3, f3, rfl, _⟩ := hy3.shape
        have hbb3 := hbb2.trans (hb3.mono hbb2.size)
        have ht3 := ht2.later hb3
        have hx3 := hx2.later hb3
        clear ht2 hx2 hb3 hbb2
        go_wp2_with fail
        refine (clone18 _ perm _ h3' (IsInts.later HZ.out hbb3)).mono ?_
        rintro en w3' ⟨z', rfl, hz3, hb3'⟩
        obtain ⟨e4, f4, rfl, _⟩ := hz3.shape
        have hbb3' := hbb3.trans (hb3'.mono hbb3.size)
        have ht3' := ht3.later hb3'
        have hx3' := hx3.later hb3'
        have hy3' := hy3.later hb3'
        clear ht3 hx3 hy3 hb3' hbb3
        go_wp2_with fail
        refine (sho20 _ _ g comp _ h2 h3 HLEN.out hx3' hy3').mono ?_
        rintro en w4 ⟨r, rfl, hbest, hb4⟩
        have HBE := show Hid _ from hbest
        have hbb4 := hbb3'.trans (hb4.mono hbb3'.size)
        have ht4 := ht3'.later hb4
        have hx4 := hx3'.later hb4
        have hy4 := hy3'.later hb4
        have hz4 := hz3.later hb4
        clear ht3' hx3' hy3' hz3 hb4 hbb3' hbest
        by_cases hr : r < 0
        · go_wp2
          go_ret
          exact ⟨rfl, hbb4⟩
        · obtain ⟨hd, d, hrd, hcyc, hmin⟩ := HBE.out.resolve_left hr
          have hc0 : 0 < comp.length := by
            have hm := hd.mem
            cases comp with
            | nil => exact absurd hm (by simp)
            | cons a b => simp
          have HDO := show Hid _ from hd
          have HCY := show Hid _ from hcyc
          clear hd hrd hcyc hmin HBE
          go_wp2_with fail
          refine (same24 g.length _ _ comp perm _ h2 h3 h3' hc0 (fun x hx => HDO.out.rng x hx) hy4 hz4).mono ?_
          rintro en w5 ⟨q, rfl, hal, hb5⟩
          have hbb5 := hbb4.trans (hb5.mono hbb4.size)
          have ht5 := ht4.later hb5
          have hx5 := hx4.later hb5
          have hy5 := hy4.later hb5
          have hz5 := hz4.later hb5
          clear ht4 hx4 hy4 hz4 hb5 hbb4
          cases q with
          | false =>
            go_wp2
            go_ret
            exact ⟨rfl, hbb5⟩
          | true =>
            obtain ⟨hp0, hps, hpm⟩ := hal rfl
            have hd := HDO.out
            obtain ⟨K, e, v, R, K', l, hbfs, hback, hok, hmin2, hll⟩ := cycle_plain hd (fun x => decide (x ∈ comp)) (fun _ => rfl) d HCY.out
            have hfe : (fun x => decide (x ∈ comp)) = (fun x => decide (x ∈ perm)) := by
              funext x
              exact decide_eq_decide.2 (hpm x).symm
            have hbfs2 := hbfs
            rw [hfe] at hbfs2
            have hd2 : Dom g perm (comp.getD 0 0) := ⟨(hpm _).2 hd.mem, fun c hc => hd.rng c ((hpm c).1 hc), hd.frm⟩
            have HD2 := show Hid _ from hd2
            have HBF := show Hid _ from hbfs
            have HBF2 := show Hid _ from hbfs2
            have HBK := show Hid _ from hback
            have HPS := show Hid _ from hps
            have hln : (l.reverse ++ [e]).length ≤ 1048577 := by simp; omega
            have hl0 : 0 < (l.reverse ++ [e]).length := by simp
            obtain ⟨les, HLE⟩ : ∃ les, Hid (l.reverse ++ [e] = les) := ⟨_, rfl⟩
            rw [HLE.out] at hln hl0
            clear hok hbfs hbfs2 hback hd hd2 hmin2 hal hps hpm hfe HCY
            go_wp2_with fail
            refine (graph22 _ _ txns g _ h1 ht5 h2 HLEN.out hx5).mono ?_
            rintro en w6 ⟨p, rfl, hp6, hb6⟩
            have hbb6 := hbb5.trans (hb6.mono hbb5.size)
            have hy6 := hy5.later hb6
            have hz6 := hz5.later hb6
            have hp6' := hp6
            obtain ⟨pb, _, rfl, _⟩ := hp6'
            clear ht5 hx5 hy5 hz5 hb6 hbb5
            go_wp2_with fail
            refine (zzCycle21 _ _ g comp _ _ h2 h3 HLEN.out rfl HDO.out hp6 hy6 K e v R K' l HBF.out HBK.out hll).mono ?_
            rintro en w7 ⟨ga, rfl, hg7, hb7⟩
            rw [HLE.out] at hg7
            have hbb7 := hbb6.trans (hb7.mono hbb6.size)
            have hz7 := hz6.later hb7
            have hp7 := hp6.later hb7
            obtain ⟨aa, ca, rfl, _⟩ := hg7.shape
            clear hy6 hz6 hb7 hbb6 hp6
            go_wp2_with fail
            refine (zzCycle21 _ _ g perm _ _ h2 h3' HLEN.out HPS.out HD2.out hp7 hz7 K e v R K' l HBF2.out HBK.out hll).mono ?_
            rintro en w8 ⟨gb, rfl, hh8, hb8⟩
            rw [HLE.out] at hh8
            have hbb8 := hbb7.trans (hb8.mono hbb7.size)
            have hg8 := hg7.later hb8
            clear hg7 hz7 hp7 hb8 hbb7 HBF HBF2 HBK hll HPS
            obtain ⟨b1, o1, k1, hs1, hb1, hE1⟩ := hg8.pos hl0
            obtain ⟨b2, o2, k2, rfl, hb2, hE2⟩ := hh8.pos hl0
            obtain rfl : aa = some ⟨b1, o1, none⟩ := by simpa using congrArg (fun v => match v with | Value.slice a _ _ => a | _ => none) hs1
            have HE1 := show Hid _ from hE1
            have HE2 := show Hid _ from hE2
            have HW := show Hid _ from hg8.1
            clear hE1 hE2 hg8 hh8 hs1 HT HX HY HZ
            go_wp2
            go_loopw [14] (fun i wr => ∃ k : Nat, k ≤ les.length ∧ i = .int .i64 k ∧ Below w8.heap.size w8 wr) (fun i _ => les.length - (intOf i).toNat)
            case atStart => exact ⟨0, Nat.zero_le _, rfl, Below.refl _ _⟩
            case round =>
              obtain ⟨j, hj, rfl, hbr⟩ := hrel
              by_cases hjl : j < les.length
              · obtain ⟨k0, k1, k2⟩ := HE1.out j hjl
                obtain ⟨m0, m1, m2⟩ := HE2.out j hjl
                have hwe : EdWf (les.getD j (0, 0, 0)) := HW.out _ (by simp [List.getD_eq_getElem?_getD, List.getElem?_eq_getElem hjl])
                generalize les.getD j (0, 0, 0) = ej at k0 k1 k2 m0 m1 m2 hwe
                obtain ⟨ef, et, ep⟩ := ej
                have q0 := (hbr.cell (p := ⟨b1, o1 + j * 3, none⟩) (by exact hb1)).trans k0
                have q1 := (hbr.cell (p := ⟨b1, o1 + j * 3 + 1, none⟩) (by exact hb1)).trans k1
                have q2 := (hbr.cell (p := ⟨b1, o1 + j * 3 + 2, none⟩) (by exact hb1)).trans k2
                clear k0 k1 k2
                go_wp2_with fail
                refine (parts14 _ _ _ _).mono ?_
                rintro en w9 ⟨rfl, hb9⟩
                have hbr9 : Below w8.heap.size w8 w9 := hbr.trans (hb9.mono hbr.size)
                have r0 := (hbr9.cell (p := ⟨b2, o2 + j * 3, none⟩) (by exact hb2)).trans m0
                have r1 := (hbr9.cell (p := ⟨b2, o2 + j * 3 + 1, none⟩) (by exact hb2)).trans m1
                have r2 := (hbr9.cell (p := ⟨b2, o2 + j * 3 + 2, none⟩) (by exact hb2)).trans m2
                clear m0 m1 m2 q0 q1 q2 hbr hb9
                go_wp2_with fail
                refine (parts14 _ _ _ _).mono ?_
                rintro en w10 ⟨rfl, hb10⟩
                have hbr10 : Below w8.heap.size w8 w10 := hbr9.trans (hb10.mono hbr9.size)
                clear r0 r1 r2 hbr9 hb10
                go_wp2
                go_roundw
                case rel => exact ⟨j + 1, by omega, by go_num, hbr10⟩
                case measure => simp [intOf]; omega
              · go_wp2
                go_ret
                exact ⟨rfl, hbb8.trans (hbr.mono hbb8.size)⟩
end Go.Proofs.Qxb6603412a
