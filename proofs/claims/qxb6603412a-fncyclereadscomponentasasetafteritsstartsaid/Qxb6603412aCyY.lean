/-
  The law's own search: it answers the length of a least cycle, or that the input lies outside.
-/
import Derived.Test.Qxb6603412aCyX
namespace Go.Proofs.Qxb6603412a
open Go.RowKit Go.Maps
set_option linter.unusedVariables false

/-- Every edge of the nodes below k is listed under its own node. -/
def FrmTo (g : List (List Ed)) (k : Nat) : Prop := ∀ v : Nat, v < k → ∀ e ∈ g.getD v [], e.1 = (v : Int)
def RngTo (comp : List Int) (n k : Nat) : Prop := ∀ j, j < k → 0 ≤ comp.getD j 0 ∧ comp.getD j 0 < (n : Int)

set_option maxRecDepth 100000 in
set_option maxHeartbeats 4000000 in
theorem sho20_some (ax : Option Addr) (oc cb co cc : Nat) (g : List (List Ed)) (comp : List Int) (start : Int) (w : World) (n m : Nat)
    (hx : IsOut w (.slice ax n oc) g) (hcb : cb < w.heap.size) (hcomp : ∀ i, i < m → w.cell? ⟨cb, co + i, none⟩ = some (.int .i64 (comp.getD i 0)))
    (hn : n ≤ 1048576) (hm : m ≤ 1048576) (hm0 : 1 ≤ m) (hgl : n = g.length) (hcl : m = comp.length) (hlen : ∀ i, i < n → (g.getD i []).length ≤ 1048576)
    (hst : comp.getD 0 0 = start) (hwf : ∀ i, i < m → I64 (comp.getD i 0)) :
    Calls Try.prog 20 #[.slice ax n oc, .slice (some ⟨cb, co, none⟩) m cc] w fun en w' => ∃ r : Int, en = .returned (.int .i64 r) ∧ Best g comp start r ∧ Below w.heap.size w w' := by
  have c0 : w.cell? ⟨cb, co, none⟩ = some (.int .i64 start) := by have := hcomp 0 (by omega); rw [hst] at this; simpa using this
  have HX := show Hid _ from hx
  have HC := show Hid _ from hcomp
  have HG := show Hid _ from hgl
  have HCL := show Hid _ from hcl
  have HN := show Hid _ from hlen
  have HST := show Hid _ from hst
  have HW := show Hid _ from hwf
  clear hx hcomp hgl hcl hlen hst hwf
  go_enter Try.func20, Try.ntmps20
  go_wp2
  go_loop [6] (fun i => ∃ k : Nat, k ≤ m ∧ i = .int .i64 k ∧ Hid (RngTo comp n k)) (fun i => m - (intOf i).toNat)
  case atStart => exact ⟨0, Nat.zero_le _, rfl, fun j hj => absurd hj (Nat.not_lt_zero _)⟩
  case round =>
    obtain ⟨k, hk, rfl, hrg⟩ := hrel
    by_cases hlt : k < m
    · have hcx := HC.out k hlt
      have hwz := HW.out k hlt
      have HN1 : Hid (0 ≤ comp.getD k 0 ∧ comp.getD k 0 < (n : Int) → RngTo comp n (k + 1)) := by
        intro h j hj
        by_cases e : j = k
        · subst e; exact h
        · exact hrg.out j (by omega)
      generalize comp.getD k 0 = z at hcx hwz HN1
      obtain ⟨hw1, hw2⟩ := hwz
      by_cases h0 : z < 0
      · go_wp2
        go_ret
        exact ⟨-1, rfl, .inl (by decide), Below.refl _ _⟩
      · by_cases h1 : z < n
        · have HN2 := show Hid _ from HN1.out ⟨by omega, h1⟩
          clear HN1
          go_wp2
          go_round
          case rel => exact ⟨k + 1, by omega, by go_num, HN2⟩
          case measure => simp [intOf]; omega
        · clear HN1
          go_wp2
          go_ret
          exact ⟨-1, rfl, .inl (by decide), Below.refl _ _⟩
    · have hkm : m = k := by omega
      subst hkm
      have hs0 : 0 ≤ start ∧ start < (n : Int) := by have := hrg.out 0 (by omega); rwa [HST.out] at this
      have hn0 : 0 < n := by omega
      obtain ⟨ob, oo, oc', hsl, hob, hout⟩ := IsOut.pos HX.out (by have := HG.out; omega)
      obtain rfl : ax = some ⟨ob, oo, none⟩ := by simpa using congrArg (fun v => match v with | Value.slice a _ _ => a | _ => none) hsl
      have HO := show Hid _ from hout
      clear hsl hout HX
      go_wp2
      go_loop [7] (fun i => ∃ v : Nat, v ≤ n ∧ i = .int .i64 v ∧ Hid (FrmTo g v)) (fun i => n - (intOf i).toNat)
      case atStart => exact ⟨0, Nat.zero_le _, rfl, fun j hj => absurd hj (Nat.not_lt_zero _)⟩
      case round =>
        obtain ⟨v, hv, rfl, hfr⟩ := hrel
        by_cases hvn : v < n
        · obtain ⟨xv, co1, hes⟩ := HO.out v (by have := HG.out; omega)
          obtain ⟨ae, ce, rfl, hae⟩ := hes.shape
          have hel := HN.out v hvn
          have HFR : Hid ((∀ e ∈ g.getD v [], e.1 = (v : Int)) → FrmTo g (v + 1)) := by
            intro h u hu
            by_cases e : u = v
            · subst e; exact h
            · exact hfr.out u (by omega)
          generalize g.getD v [] = es at co1 hes hel HFR
          have HES := show Hid _ from hes
          clear hes hae
          go_wp2
          go_loop [8] (fun i => ∃ j : Nat, j ≤ es.length ∧ i = .int .i64 j ∧ Hid (∀ e ∈ es.take j, e.1 = (v : Int))) (fun i => es.length - (intOf i).toNat)
          case atStart => exact ⟨0, Nat.zero_le _, rfl, fun e he => by cases he⟩
          case round =>
            obtain ⟨j, hj, rfl, hdo⟩ := hrel
            by_cases hjl : j < es.length
            · have hEW : IsEdges w (.slice ae es.length ce) es := HES.out
              obtain ⟨eb, eo, ecap, hsl, hebl, hed⟩ := hEW.pos (by omega)
              obtain ⟨k0, k1, k2⟩ := hed j hjl
              have hwe : EdWf (es.getD j (0, 0, 0)) := hEW.1 _ (by simp [List.getD_eq_getElem?_getD, List.getElem?_eq_getElem hjl])
              obtain rfl : ae = some ⟨eb, eo, none⟩ := by simpa using congrArg (fun v => match v with | Value.slice a _ _ => a | _ => none) hsl
              have HD : Hid ((es.getD j (0, 0, 0)).1 = (v : Int) → ∀ e ∈ es.take (j + 1), e.1 = (v : Int)) := by
                intro h e he
                rw [List.take_succ_eq_append_getElem hjl] at he
                rcases List.mem_append.1 he with he | he
                · exact hdo.out e he
                · obtain rfl : e = es[j] := by simpa using he
                  rw [← h]
                  simp [List.getD_eq_getElem?_getD, List.getElem?_eq_getElem hjl]
              generalize es.getD j (0, 0, 0) = ej at k0 k1 k2 hwe HD
              obtain ⟨ef, et, ep⟩ := ej
              obtain ⟨⟨hw1, hw2⟩, _⟩ := hwe
              clear hed hsl k1 k2 hEW
              by_cases hef : ef = v
              · have HD2 := show Hid _ from HD.out hef
                clear HD
                subst hef
                go_wp2
                go_round
                case rel => exact ⟨j + 1, by omega, by go_num, HD2⟩
                case measure => simp [intOf]; omega
              · have hef' : (ef == (v : Int)) = false := by simpa using hef
                clear HD
                go_wp2
                go_ret
                exact ⟨-1, rfl, .inl (by decide), Below.refl _ _⟩
            · have HD2 := show Hid _ from HFR.out (by have := hdo.out; rwa [List.take_of_length_le (by omega)] at this)
              clear hdo HFR
              go_wp2
              go_round
              case rel => exact ⟨v + 1, by omega, by go_num, HD2⟩
              case measure => simp [intOf]; omega
        · have hvn' : n = v := by omega
          subst hvn'
          have HD : Hid (Dom g comp start) := by
            refine ⟨?_, ?_, ?_⟩
            · have hl := HCL.out
              rw [← HST.out]; simp [List.getD_eq_getElem?_getD, List.getElem?_eq_getElem (show 0 < comp.length by omega)]
            · intro c hc
              obtain ⟨i, hi, rfl⟩ := List.getElem_of_mem hc
              have := hrg.out i (by have := HCL.out; omega)
              rw [← HG.out]
              simpa [List.getD_eq_getElem?_getD, List.getElem?_eq_getElem hi] using this
            · have := hfr.out
              rw [HG.out] at this
              exact this
          clear hfr hrg
          obtain ⟨i4, hi4, hz4, hz4', hz4''⟩ := info_parts Try.info4
          go_wp2_with (at_make; refine wpList_make_full _ rfl _ _ 29 rfl w.heap.size 4 i4 (.bool false) 1 Try.underlying29 hi4 hz4 hz4' .i64 .i64 _ _ n rfl rfl rfl rfl (by rw [hz4'']; omega) (by unfold maxLen; omega) (Nat.le_refl _) ?_; intro w1 hown hgrow)
          have hb1 : Below w.heap.size w w1 := (Below.refl _ _).grown hgrow (Nat.le_refl _) (by intro k hk; cases hk)
          have hown1 : w1.ownsRow w.heap.size 4 1 (.slice (some ⟨w.heap.size, 0, none⟩) n n) n ((inRow n (comp.take 0)).map Value.bool) := by
            have h := hown
            rw [show Value.cells (.bool false) = #[.bool false] from rfl, toList_madeCells_one, Nat.mul_one] at h
            rw [List.take_zero, inRow_nil]
            exact h
          obtain ⟨hs1, hs2⟩ := hs0
          obtain ⟨sn, rfl⟩ := Int.eq_ofNat_of_zero_le hs1
          clear hown hgrow hi4 hz4 hz4' hz4''
          go_loopw [10] (fun i wr => ∃ q : Nat, q ≤ m ∧ i = .int .i64 q ∧ wr.ownsRow w.heap.size 4 1 (.slice (some ⟨w.heap.size, 0, none⟩) n n) n ((inRow n (comp.take q)).map Value.bool) ∧ Below w.heap.size w wr) (fun i _ => m - (intOf i).toNat)
          case atStart => exact ⟨0, Nat.zero_le _, rfl, hown1, hb1⟩
          case round =>
            obtain ⟨q, hq, rfl, hown, hbr⟩ := hrel
            clear hown1 hb1
            by_cases hqm : q < m
            · have hcx : wr.cell? ⟨cb, co + q, none⟩ = some (.int .i64 (comp.getD q 0)) := (hbr.cell (by exact hcb)).trans (HC.out q hqm)
              have hl := HCL.out
              have hmem : comp.getD q 0 ∈ comp := by simp [List.getD_eq_getElem?_getD, List.getElem?_eq_getElem (show q < comp.length by omega)]
              have hz := HD.out.rng _ hmem
              rw [← HG.out] at hz
              have htk : comp.take (q + 1) = comp.take q ++ [comp.getD q 0] := by
                rw [List.take_succ_eq_append_getElem (by omega)]
                simp [List.getD_eq_getElem?_getD, List.getElem?_eq_getElem (show q < comp.length by omega)]
              generalize comp.getD q 0 = z at hcx hz htk
              obtain ⟨hz1, hz2⟩ := hz
              obtain ⟨zn, rfl⟩ := Int.eq_ofNat_of_zero_le hz1
              obtain ⟨qz, hic⟩ := icell' hown zn (by omega)
              have hfz := hown.frozenAt zn
              have hown2 := (hown.stored zn (.bool true)).1
              rw [inRow_set _ _ _ (by omega), ← htk] at hown2
              have hb2 := hbr.setCell (p := ⟨w.heap.size, zn, none⟩) (Nat.le_refl _) (.bool true)
              have HO2 := show Hid _ from hown2
              clear htk hown hown2 hl hmem
              go_wp2
              go_roundw
              case rel => exact ⟨q + 1, by omega, by go_num, HO2.out, hb2⟩
              case measure => simp [intOf]; omega
            · have hown2 := hown
              rw [List.take_of_length_le (by have := HCL.out; omega)] at hown2
              have c0' : wr.cell? ⟨cb, co, none⟩ = some (.int .i64 sn) := (hbr.cell (by exact hcb)).trans c0
              have HO2 := show Hid _ from hown2
              clear hown hown2
              obtain ⟨i3, hi3, hz3, hz3', hz3''⟩ := info_parts Try.info3
              have hbs := hbr.size
              go_wp2_with (at_make; refine wpList_make_full _ rfl _ _ 28 rfl w.heap.size 3 i3 (.int .i64 0) 1 Try.underlying28 hi3 hz3 hz3' .i64 .i64 _ _ n rfl rfl rfl rfl (by rw [hz3'']; omega) (by unfold maxLen; omega) hbs ?_; intro w2 hown hgrow)
              have hO3 : wr.ownsRow w.heap.size 4 1 (.slice (some ⟨w.heap.size, 0, none⟩) n n) n ((inRow n comp).map Value.bool) := HO2.out
              have hlt3 := (hO3.lt w.heap.size rfl).2
              have hsm : SM w w2 n w.heap.size wr.heap.size comp (List.replicate 0 (-1) ++ List.replicate (n - 0) 0) := by
                refine ⟨hO3.kept hgrow (.inr (by simp [Value.ownBlock])), ?_, hbr.grown hgrow hbs (by intro k hk; cases hk), by omega⟩
                have h := hown
                rw [show Value.cells (.int .i64 0) = #[.int .i64 0] from rfl, toList_madeCells_one, Nat.mul_one] at h
                simpa using h
              generalize wr.heap.size = bd at hsm hlt3
              clear hown hgrow hi3 hz3 hz3' hz3'' hO3 HO2 hbs hbr c0'
              go_loopw [13] (fun i wr2 => ∃ q : Nat, q ≤ n ∧ i = .int .i64 q ∧ SM w wr2 n w.heap.size bd comp (List.replicate q (-1) ++ List.replicate (n - q) 0)) (fun i _ => n - (intOf i).toNat)
              case atStart => exact ⟨0, Nat.zero_le _, rfl, hsm⟩
              case round =>
                obtain ⟨q2, hq2, rfl, hsm2⟩ := hrel
                clear hsm
                by_cases hqn : q2 < n
                · have hdc := hsm2.dcell q2 hqn
                  have hfz := hsm2.di.frozenAt q2
                  have hsm3 := hsm2.store q2 (-1)
                  rw [fill_set n q2 hqn] at hsm3
                  have HS3 := show Hid _ from hsm3
                  generalize dAt (List.replicate q2 (-1) ++ List.replicate (n - q2) 0) q2 = dz at hdc
                  clear hsm3 hsm2
                  go_wp2
                  go_roundw
                  case rel => exact ⟨q2 + 1, by omega, by go_num, HS3.out⟩
                  case measure => simp [intOf]; omega
                · have hsm3 : SM w wr n w.heap.size bd comp (List.replicate n (-1)) := by
                    have e : q2 = n := by omega
                    rw [e] at hsm2
                    simpa using hsm2
                  have hdc := hsm3.dcell sn (by omega)
                  have hfz := hsm3.di.frozenAt sn
                  have hsm4 := (hsm3.store sn 0).alloc (.cells #[.int .i64 sn] 3)
                  have hfo := OwnF.made (wr.setCell ⟨bd, sn, none⟩ (.int .i64 0)) sn
                  have HMI : Hid (MI g comp sn ((List.replicate n (-1)).set sn 0) [(sn : Int)] [] 0 0 []) := by
                    have := MI.begin (g := g) (comp := comp) (start := sn) (by omega) (by rw [← HG.out]; omega)
                    rw [← HG.out] at this
                    unfold Hid
                    simpa using this
                  have hbd := (hsm3.di.lt bd rfl).2
                  have HNG : Hid (negs ((List.replicate n (-1)).set sn 0) + 1 ≤ n) := by
                    have h1 := negs_set (List.replicate n (-1)) sn 0 (by simp; omega) (by simp [List.getD_eq_getElem?_getD, List.getElem?_replicate]; split <;> simp) (by omega)
                    have h2 := negs_le (List.replicate n (-1))
                    simp at h2
                    unfold Hid
                    omega
                  have HB0 : Hid (w.heap.size < wr.heap.size ∧ bd < wr.heap.size) := ⟨by omega, hbd⟩
                  generalize dAt (List.replicate n (-1)) sn = dz at hdc
                  clear hsm2 hsm3 hlt3
                  go_wp2
                  generalize hd0 : (List.replicate n (-1)).set sn 0 = dist0 at hsm4 HMI HNG
                  clear hd0 hdc hfz hbd
                  go_loopg [14, 15] n (fun kk f lv wr6 => ∃ (F : List Int) (L : Nat) (dist : List Int) (fa : Option Addr) (fc Bf : Nat), f = .slice fa F.length fc ∧ lv = .int .i64 L ∧ Hid (MI g comp sn dist F [] L 0 []) ∧ OwnF wr6 Bf fa fc F ∧ SM w wr6 n w.heap.size bd comp dist ∧ Hid (w.heap.size < Bf ∧ bd < Bf ∧ Bf ≤ wr6.heap.size) ∧ Hid (negs dist + (if F = [] then 0 else 1) ≤ kk ∧ kk + L ≤ n + 1) ∧ F.length ≤ n)
                  case atStart =>
                    refine ⟨[(sn : Int)], 0, dist0, _, _, wr.heap.size, rfl, rfl, HMI, by simpa using hfo, hsm4, ?_, ?_, by simp; omega⟩
                    · have := HB0.out; unfold Hid; simp; omega
                    · have := HNG.out; unfold Hid; simp; omega
                  case round =>
                    obtain ⟨F, L, dist, fa, fc, Bf, rfl, rfl, hMI, hfo6, hsm6, hB6, hk6, hFl⟩ := hrel
                    clear hfo hsm4 HMI HNG HB0
                    by_cases hF : F = []
                    · subst hF
                      have HF : Hid (FI g comp sn dist) := hMI.out.fin
                      have hbel6 := hsm6.bel
                      have HDC : Hid (∀ k : Nat, k < n → wr.cell? ⟨bd, k, none⟩ = some (.int .i64 (dAt dist k))) := fun k hk => hsm6.dcell k hk
                      have HDB : Hid (∀ k : Nat, k < n → dAt dist k ≤ n + 1) := by
                        intro k hk
                        by_cases h : 0 ≤ dAt dist k
                        · obtain ⟨d, h1, h2, _⟩ := hMI.out.rch _ h
                          have := hk6.out
                          have hne : dAt dist k ≠ L := fun e => by have := hMI.out.cov _ e; cases this
                          have hne2 : dAt dist k ≠ L + 1 := fun e => by have := hMI.out.ncov _ e; cases this
                          omega
                        · omega
                      clear hMI hfo6 hsm6 hB6 hk6
                      go_wp2
                      go_loop [21, 22] (fun b i => ∃ (best : Int) (v : Nat), v ≤ n ∧ i = .int .i64 v ∧ b = .int .i64 best ∧ -1 ≤ best ∧ best ≤ n + 2 ∧ Hid (BI g comp sn dist best v [])) (fun _ i => n - (intOf i).toNat)
                      case atStart => exact ⟨-1, 0, Nat.zero_le _, rfl, rfl, by omega, by omega, BI.begin⟩
                      case round =>
                        obtain ⟨best, v, hv, rfl, rfl, hb0, hb1, hBI⟩ := hrel
                        by_cases hvn : v < n
                        · have hdc := HDC.out v hvn
                          have hdb := HDB.out v hvn
                          obtain ⟨dv, HDV⟩ : ∃ dv, Hid (dAt dist v = dv) := ⟨_, rfl⟩
                          rw [HDV.out] at hdc hdb
                          by_cases hneg : dv < 0
                          · have HB2 := show Hid _ from hBI.out.neg (by rw [HDV.out]; exact hneg)
                            clear hBI
                            go_wp2
                            go_round
                            case rel => exact ⟨best, v + 1, by omega, by go_num, rfl, hb0, hb1, HB2⟩
                            case measure => simp [intOf]; omega
                          · obtain ⟨xv, co1, hes⟩ := HO.out v (by have := HG.out; omega)
                            have co2 : wr.cell? ⟨ob, oo + v, none⟩ = some xv := (hbel6.cell (by exact hob)).trans co1
                            obtain ⟨ae, ce, rfl, hae⟩ := hes.shape
                            have hel := HN.out v hvn
                            have HNX : Hid (∀ best, BI g comp sn dist best v (g.getD v []) → BI g comp sn dist best (v + 1) []) := fun b h => BI.next (by exact h)
                            have HGO : Hid (∀ e ∈ g.getD v [], e ∈ gout g (v : Int)) := fun e he => he
                            generalize g.getD v [] = es at co1 co2 hes hel HNX HGO
                            have HES := show Hid _ from hes
                            clear hes hae co1
                            go_wp2
                            go_loop [21, 23] (fun b i => ∃ (best : Int) (j : Nat), j ≤ es.length ∧ i = .int .i64 j ∧ b = .int .i64 best ∧ -1 ≤ best ∧ best ≤ n + 2 ∧ Hid (BI g comp sn dist best v (es.take j))) (fun _ i => es.length - (intOf i).toNat)
                            case atStart => exact ⟨best, 0, Nat.zero_le _, rfl, rfl, hb0, hb1, hBI⟩
                            case round =>
                              obtain ⟨best2, j, hj, rfl, rfl, hb2, hb3, hBI2⟩ := hrel
                              clear hBI hb0 hb1
                              by_cases hjl : j < es.length
                              · have hEW : IsEdges w (.slice ae es.length ce) es := HES.out
                                obtain ⟨eb, eo, ecap, hsl, hebl, hed⟩ := (IsEdges.later hEW hbel6).pos (by omega)
                                obtain ⟨k0, k1, k2⟩ := hed j hjl
                                have hwe : EdWf (es.getD j (0, 0, 0)) := hEW.1 _ (by simp [List.getD_eq_getElem?_getD, List.getElem?_eq_getElem hjl])
                                obtain rfl : ae = some ⟨eb, eo, none⟩ := by simpa using congrArg (fun v => match v with | Value.slice a _ _ => a | _ => none) hsl
                                have HTK : Hid (es.take (j + 1) = es.take j ++ [es.getD j (0, 0, 0)]) := by
                                  unfold Hid
                                  rw [List.take_succ_eq_append_getElem hjl]
                                  simp [List.getD_eq_getElem?_getD, List.getElem?_eq_getElem hjl]
                                have HME : Hid (es.getD j (0, 0, 0) ∈ gout g (v : Int)) := HGO.out _ (by simp [List.getD_eq_getElem?_getD, List.getElem?_eq_getElem hjl])
                                generalize es.getD j (0, 0, 0) = ej at k0 k1 k2 hwe HTK HME
                                obtain ⟨ef, et, ep⟩ := ej
                                obtain ⟨_, ⟨hw1, hw2⟩, _⟩ := hwe
                                clear hed hsl k0 k2 hEW
                                by_cases hef : et = sn
                                · subst hef
                                  by_cases hlt1 : best2 < 0
                                  · have HB2 : Hid (BI g comp sn dist (dv + 1) v (es.take (j + 1))) := by
                                      unfold Hid
                                      rw [HTK.out, ← HDV.out]
                                      exact hBI2.out.take HF.out HME.out rfl (by rw [HDV.out]; omega) (.inl hlt1)
                                    clear hBI2 HTK HME
                                    go_wp2
                                    go_round
                                    case rel => exact ⟨dv + 1, j + 1, by omega, by go_num, rfl, by omega, by omega, HB2⟩
                                    case measure => simp [intOf]; omega
                                  · by_cases hlt2 : dv + 1 < best2
                                    · have HB2 : Hid (BI g comp sn dist (dv + 1) v (es.take (j + 1))) := by
                                        unfold Hid
                                        rw [HTK.out, ← HDV.out]
                                        exact hBI2.out.take HF.out HME.out rfl (by rw [HDV.out]; omega) (.inr (by rw [HDV.out]; exact hlt2))
                                      clear hBI2 HTK HME
                                      go_wp2
                                      go_round
                                      case rel => exact ⟨dv + 1, j + 1, by omega, by go_num, rfl, by omega, by omega, HB2⟩
                                      case measure => simp [intOf]; omega
                                    · have HB2 : Hid (BI g comp sn dist best2 v (es.take (j + 1))) := by
                                        unfold Hid
                                        rw [HTK.out]
                                        exact hBI2.out.skip (fun _ _ => ⟨by omega, by rw [HDV.out]; omega⟩)
                                      clear hBI2 HTK HME
                                      go_wp2
                                      go_round
                                      case rel => exact ⟨best2, j + 1, by omega, by go_num, rfl, by omega, by omega, HB2⟩
                                      case measure => simp [intOf]; omega
                                · have hef' : (et == (sn : Int)) = false := by simpa using hef
                                  have HB2 : Hid (BI g comp sn dist best2 v (es.take (j + 1))) := by
                                    unfold Hid
                                    rw [HTK.out]
                                    exact hBI2.out.skip (fun _ h => absurd h hef)
                                  clear hBI2 HTK HME
                                  go_wp2
                                  go_round
                                  case rel => exact ⟨best2, j + 1, by omega, by go_num, rfl, by omega, by omega, HB2⟩
                                  case measure => simp [intOf]; omega
                              · have HB2 : Hid (BI g comp sn dist best2 (v + 1) []) := HNX.out _ (by have := hBI2.out; rwa [List.take_of_length_le (by omega)] at this)
                                clear hBI2
                                go_wp2
                                go_round
                                case rel => exact ⟨best2, v + 1, by omega, by go_num, rfl, hb2, hb3, HB2⟩
                                case measure => simp [intOf]; omega
                        · have HBE : Hid (Best g comp sn best) := by
                            have h1 := hBI.out
                            have e : v = g.length := by have := HG.out; omega
                            rw [e] at h1
                            exact h1.fin HF.out HD.out
                          clear hBI
                          go_wp2
                          go_ret
                          exact ⟨best, rfl, HBE.out, hbel6⟩
                    · have hF0 : 0 < F.length := List.length_pos_iff.2 hF
                      obtain ⟨fb, rfl, hfb1, hfb2, hfc⟩ := hfo6.cell hF0
                      obtain ⟨hB1, hB2, hB3⟩ := hB6.out
                      have hlm := LM.begin hsm6 hfo6 hB1 hB2 (by omega) hB3
                      have HFC := show Hid _ from hfc
                      have HNL : Hid (negs dist ≤ n) := by have := negs_le dist; rw [hMI.out.len, ← HG.out] at this; exact this
                      have hLn : L ≤ n := by
                        have := hk6.out
                        rw [if_neg hF] at this
                        omega
                      generalize wr.heap.size = Bn at hlm hB3
                      have hgk : 1 ≤ gk := by
                        have := hk6.out
                        rw [if_neg hF] at this
                        omega
                      clear hfo6 hsm6 hB6 hfc
                      go_wp2
                      go_loopw [16, 17] (fun nx hh wr7 => ∃ (N : List Int) (q : Nat) (dist' : List Int) (na : Option Addr) (nc : Nat), q ≤ F.length ∧ nx = .slice na N.length nc ∧ hh = .int .i64 q ∧ Hid (MI g comp sn dist' F N L q []) ∧ LM w wr7 n w.heap.size bd comp dist' F (some ⟨fb, 0, none⟩) fc N na nc Bf Bn ∧ Hid (negs dist' + N.length ≤ negs dist)) (fun _ hh _ => F.length - (intOf hh).toNat)
                      case atStart => exact ⟨[], 0, dist, none, 0, Nat.zero_le _, rfl, rfl, hMI, hlm, by unfold Hid; simp⟩
                      case round =>
                        obtain ⟨N, q, dist', na, nc, hq, rfl, rfl, hMI7, hlm7, hng7⟩ := hrel
                        clear hMI hlm
                        by_cases hqF : q < F.length
                        · have hbel7 := hlm7.sm.bel
                          have hFo := hlm7.fo
                          obtain ⟨fb', hfbe, _, _, hfc7⟩ := hFo.cell hF0
                          obtain rfl : fb = fb' := by simpa using hfbe
                          have hcf := hfc7 q hqF
                          have hvF : F.getD q 0 ∈ F := by simp [List.getD_eq_getElem?_getD, List.getElem?_eq_getElem hqF]
                          have hvq : F[q]? = some (F.getD q 0) := by simp [List.getD_eq_getElem?_getD, List.getElem?_eq_getElem hqF]
                          have hrv := dAt_rng (dist := dist') (x := F.getD q 0) (by rw [hMI7.out.fr _ hvF]; omega)
                          rw [hMI7.out.len, ← HG.out] at hrv
                          obtain ⟨vn, HVN⟩ := Int.eq_ofNat_of_zero_le hrv.1
                          rw [HVN] at hcf hvF hvq hrv
                          have hvn : vn < n := by omega
                          obtain ⟨xv, co1, hes⟩ := HO.out vn (by have := HG.out; omega)
                          have co2 : wr.cell? ⟨ob, oo + vn, none⟩ = some xv := (hbel7.cell (by exact hob)).trans co1
                          obtain ⟨ae, ce, rfl, hae⟩ := hes.shape
                          have hel := HN.out vn hvn
                          have HNX : Hid (∀ dist N, MI g comp sn dist F N L q (g.getD vn []) → MI g comp sn dist F N L (q + 1) []) := fun d N h => MI.next (v := (vn : Int)) (by exact h) hvq
                          have HGO : Hid (∀ e ∈ g.getD vn [], e ∈ gout g (vn : Int)) := fun e he => he
                          have HVF := show Hid _ from hvF
                          generalize g.getD vn [] = es at co1 co2 hes hel HNX HGO
                          have HES := show Hid _ from hes
                          have HC1 := show Hid _ from co1
                          clear hes hae co1 hFo hfbe hfc7 hvF hvq hrv HVN
                          go_wp2
                          go_loopw [16, 19] (fun nx i wr8 => ∃ (N : List Int) (j : Nat) (dist' : List Int) (na : Option Addr) (nc : Nat), j ≤ es.length ∧ nx = .slice na N.length nc ∧ i = .int .i64 j ∧ Hid (MI g comp sn dist' F N L q (es.take j)) ∧ LM w wr8 n w.heap.size bd comp dist' F (some ⟨fb, 0, none⟩) fc N na nc Bf Bn ∧ Hid (negs dist' + N.length ≤ negs dist)) (fun _ i _ => es.length - (intOf i).toNat)
                          case atStart => exact ⟨N, 0, dist', na, nc, Nat.zero_le _, rfl, rfl, hMI7, hlm7, hng7⟩
                          case round =>
                            obtain ⟨N8, j, dist8, na8, nc8, hj, rfl, rfl, hMI8, hlm8, hng8⟩ := hrel
                            clear hMI7 hlm7 hng7 hbel7 co2 hcf
                            have hbel8 := hlm8.sm.bel
                            have co2 : wr.cell? ⟨ob, oo + vn, none⟩ = some (.slice ae es.length ce) := (hbel8.cell (by exact hob)).trans HC1.out
                            by_cases hjl : j < es.length
                            · have hEW : IsEdges w (.slice ae es.length ce) es := HES.out
                              obtain ⟨eb, eo, ecap, hsl, hebl, hed⟩ := (IsEdges.later hEW hbel8).pos (by omega)
                              obtain ⟨k0, k1, k2⟩ := hed j hjl
                              have hwe : EdWf (es.getD j (0, 0, 0)) := hEW.1 _ (by simp [List.getD_eq_getElem?_getD, List.getElem?_eq_getElem hjl])
                              obtain rfl : ae = some ⟨eb, eo, none⟩ := by simpa using congrArg (fun v => match v with | Value.slice a _ _ => a | _ => none) hsl
                              have HTK : Hid (es.take (j + 1) = es.take j ++ [es.getD j (0, 0, 0)]) := by
                                unfold Hid
                                rw [List.take_succ_eq_append_getElem hjl]
                                simp [List.getD_eq_getElem?_getD, List.getElem?_eq_getElem hjl]
                              have HME : Hid (es.getD j (0, 0, 0) ∈ gout g (vn : Int)) := HGO.out _ (by simp [List.getD_eq_getElem?_getD, List.getElem?_eq_getElem hjl])
                              generalize es.getD j (0, 0, 0) = ej at k0 k1 k2 hwe HTK HME
                              obtain ⟨ef, et, ep⟩ := ej
                              obtain ⟨_, ⟨hw1, hw2⟩, _⟩ := hwe
                              clear hed hsl k0 k2 hEW
                              have HSK : Hid ((et ∈ comp → 0 ≤ dAt dist8 et) → MI g comp sn dist8 F N8 L q (es.take (j + 1))) := by
                                intro h
                                rw [HTK.out]
                                exact hMI8.out.skip h
                              by_cases he0 : et < 0
                              · have HM2 := show Hid _ from HSK.out (fun h => by have := (HD.out.rng _ h).1; omega)
                                clear HSK hMI8 HTK HME
                                go_wp2
                                go_roundw
                                case rel => exact ⟨N8, j + 1, dist8, na8, nc8, by omega, rfl, by go_num, HM2, hlm8, hng8⟩
                                case measure => simp [intOf]; omega
                              · by_cases hen : et < n
                                · obtain ⟨tn, rfl⟩ := Int.eq_ofNat_of_zero_le (show 0 ≤ et by omega)
                                  have hcc := hlm8.sm.ccell tn (by omega)
                                  have hdc := hlm8.sm.dcell tn (by omega)
                                  by_cases hin : (tn : Int) ∈ comp
                                  · rw [decide_eq_true hin] at hcc
                                    obtain ⟨dt, HDT⟩ : ∃ dt, Hid (dAt dist8 tn = dt) := ⟨_, rfl⟩
                                    rw [HDT.out] at hdc
                                    by_cases hneg : dt < 0
                                    · have HM2 : Hid (MI g comp sn (dist8.set tn ((L : Int) + 1)) F (N8 ++ [(tn : Int)]) L q (es.take (j + 1))) := by
                                        unfold Hid
                                        rw [HTK.out]
                                        exact hMI8.out.set (t := (tn : Int)) HVF.out HME.out rfl hin (show (0 : Int) ≤ (tn : Int) by omega) (by rw [← HG.out]; omega) (by rw [HDT.out]; exact hneg)
                                      have HNG2 : Hid (negs (dist8.set tn ((L : Int) + 1)) + (N8 ++ [(tn : Int)]).length ≤ negs dist) := by
                                        have hdd : dist8.getD tn (-1) = dt := by
                                          have := HDT.out
                                          unfold dAt at this
                                          rwa [if_neg (show ¬ ((tn : Int) < 0) by omega)] at this
                                        have h1 := negs_set dist8 tn ((L : Int) + 1) (by rw [hMI8.out.len, ← HG.out]; omega) (by rw [hdd]; exact hneg) (by omega)
                                        have h2 := hng8.out
                                        unfold Hid
                                        simp only [List.length_append, List.length_singleton]
                                        omega
                                      have hN8 : N8.length ≤ 1048577 := by have := HNL.out; have := hng8.out; omega
                                      have hfz := hlm8.sm.di.frozenAt tn
                                      have hlm9 := (hlm8.store tn ((L : Int) + 1)).alloc (.cells #[.int .i64 tn] 3)
                                      have hcz : ((wr.setCell ⟨bd, tn, none⟩ (.int .i64 ((L : Int) + 1))).alloc (.cells #[.int .i64 tn] 3)).cell? ⟨wr.heap.size, 0, none⟩ = some (.int .i64 tn) := by rw [World.cell?_alloc_at _ _ _ _ (by simp)]; rfl
                                      clear HSK hMI8 HTK HME hng8 hlm8
                                      go_wp2_with (at_builtin; refine wp_npush _ rfl _ _ rfl Bn na8 nc8 N8 rfl hlm9.no tn wr.heap.size rfl hcz hN8 hlm9.b5 ?_; intro na9 nc9 w9 hno9 hb9)
                                      go_roundw
                                      case rel => exact ⟨N8 ++ [(tn : Int)], j + 1, _, na9, nc9, by omega, by simp, by go_num, HM2, hlm9.push hno9 hb9, HNG2⟩
                                      case measure => simp [intOf]; omega
                                    · have HM2 := show Hid _ from HSK.out (fun _ => by rw [HDT.out]; omega)
                                      have hdt : dt ≤ 9223372036854775807 := by
                                        obtain ⟨d, h1, h2, _⟩ := hMI8.out.rch tn (by rw [HDT.out]; omega)
                                        have := HDT.out
                                        omega
                                      clear HSK hMI8 HTK HME
                                      go_wp2
                                      go_roundw
                                      case rel => exact ⟨N8, j + 1, dist8, na8, nc8, by omega, rfl, by go_num, HM2, hlm8, hng8⟩
                                      case measure => simp [intOf]; omega
                                  · rw [decide_eq_false hin] at hcc
                                    have HM2 := show Hid _ from HSK.out (fun h => absurd h hin)
                                    clear HSK hMI8 HTK HME hdc
                                    go_wp2
                                    go_roundw
                                    case rel => exact ⟨N8, j + 1, dist8, na8, nc8, by omega, rfl, by go_num, HM2, hlm8, hng8⟩
                                    case measure => simp [intOf]; omega
                                · have HM2 := show Hid _ from HSK.out (fun h => by have := (HD.out.rng _ h).2; rw [← HG.out] at this; omega)
                                  clear HSK hMI8 HTK HME
                                  go_wp2
                                  go_roundw
                                  case rel => exact ⟨N8, j + 1, dist8, na8, nc8, by omega, rfl, by go_num, HM2, hlm8, hng8⟩
                                  case measure => simp [intOf]; omega
                            · have HM2 : Hid (MI g comp sn dist8 F N8 L (q + 1) []) := HNX.out _ _ (by have := hMI8.out; rwa [List.take_of_length_le (by omega)] at this)
                              clear hMI8
                              go_wp2
                              go_roundw
                              case rel => exact ⟨N8, q + 1, dist8, na8, nc8, by omega, rfl, by go_num, HM2, hlm8, hng8⟩
                              case measure => simp [intOf]; omega
                        · have HM2 : Hid (MI g comp sn dist' N [] (L + 1) 0 []) := by
                            have h1 := hMI7.out
                            have e : q = F.length := by omega
                            rw [e] at h1
                            exact h1.level
                          have HK2 : Hid (negs dist' + (if N = [] then 0 else 1) ≤ gk - 1 ∧ gk - 1 + (L + 1) ≤ n + 1) := by
                            have h1 := hk6.out
                            have h2 := hng7.out
                            rw [if_neg hF] at h1
                            unfold Hid
                            by_cases e : N = []
                            · rw [if_pos e]; omega
                            · rw [if_neg e]
                              have := List.length_pos_iff.2 e
                              omega
                          have hNl : N.length ≤ n := by have := HNL.out; have := hng7.out; omega
                          have hno := hlm7.no
                          have hsm7 := hlm7.sm
                          have HB7 : Hid (w.heap.size < Bn ∧ bd < Bn ∧ Bn ≤ wr.heap.size) := ⟨by have := hlm7.b1; have := hlm7.b3; omega, by have := hlm7.b2; have := hlm7.b3; omega, hlm7.b5⟩
                          clear hMI7 hlm7 hng7 hk6
                          go_wp2
                          go_roundg (gk - 1)
                          case rel => exact ⟨N, L + 1, dist', na, nc, Bn, rfl, by go_num, HM2, hno, hsm7, HB7, HK2, hNl⟩
                          case measure => omega

set_option maxRecDepth 100000 in
theorem sho20_nil (x : Value) (ay : Option Addr) (cy : Nat) (g : List (List Ed)) (comp : List Int) (w : World) (h : IsOut w x g) :
    Calls Try.prog 20 #[x, .slice ay 0 cy] w fun en w' => ∃ r : Int, en = .returned (.int .i64 r) ∧ Best g comp (comp.getD 0 0) r ∧ Below w.heap.size w w' := by
  obtain ⟨a, c, rfl, _⟩ := h.shape
  go_enter Try.func20, Try.ntmps20
  go_wp2
  go_ret
  exact ⟨-1, rfl, .inl (by decide), Below.refl _ _⟩

theorem sho20 (x y : Value) (g : List (List Ed)) (comp : List Int) (w : World) (hn : g.length ≤ 1048576) (hm : comp.length ≤ 1048576) (hlen : ∀ i, i < g.length → (g.getD i []).length ≤ 1048576) (hx : IsOut w x g) (hy : IsInts w y comp) :
    Calls Try.prog 20 #[x, y] w fun en w' => ∃ r : Int, en = .returned (.int .i64 r) ∧ Best g comp (comp.getD 0 0) r ∧ Below w.heap.size w w' := by
  by_cases h0 : comp.length = 0
  · obtain ⟨ay, cy, rfl, _⟩ := hy.shape
    rw [h0]
    exact sho20_nil x ay cy g comp w hx
  · obtain ⟨cb, co, cc, rfl, hcb, hc⟩ := hy.pos (by omega)
    obtain ⟨ax, cx, rfl, _⟩ := hx.shape
    refine sho20_some ax cx cb co cc g comp _ w g.length comp.length hx hcb hc hn hm (by omega) rfl rfl hlen rfl ?_
    intro i hi
    exact hy.1 _ (by simp [List.getD_eq_getElem?_getD, List.getElem?_eq_getElem hi])
end Go.Proofs.Qxb6603412a
