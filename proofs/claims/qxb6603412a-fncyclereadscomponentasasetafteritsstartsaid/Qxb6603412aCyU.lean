/-
  (*graph).cycle: it runs the plain search.
-/
import Derived.Test.Qxb6603412aCyTa
namespace Go.Proofs.Qxb6603412a
open Go.RowKit Go.Maps
set_option linter.unusedVariables false

/-- What stands in memory while the search goes: the set, the map 'reached', the queue. -/
structure Mem (w0 w : World) (n ib rb B : Nat) (comp : List Int) (R : List (Int × Ed)) (Q : List Int) (qa : Option Addr) (c : Nat) : Prop where
  im : ∃ k, IMap w ib k comp
  em : EMap w rb R
  qu : OwnQ w B qa c Q
  bel : Below w0.heap.size w0 w
  i0 : w0.heap.size ≤ ib
  r0 : w0.heap.size ≤ rb
  ir : ib ≠ rb
  iB : ib < B
  rB : rb < B
  sz : B ≤ w.heap.size
  rng : ∀ x ∈ Q, 0 ≤ x ∧ x < n
  lr : R.length + unr n R ≤ n + 1
  lq : Q.length + unr n R ≤ n + 1
  wf : ∀ q ∈ R, EdWf q.2

theorem EMap.below {w w' : World} {B b : Nat} {R : List (Int × Ed)} (h : EMap w b R) (hb : Below B w w') (hlt : b < B) : EMap w' b R := by
  obtain ⟨D, ⟨es, clock, h1, h2, h3, h4⟩, h5⟩ := h
  exact ⟨D, ⟨es, clock, (hb.block b hlt).trans h1, h2, h3, h4⟩, h5⟩
theorem IMap.below {w w' : World} {B b n : Nat} {comp : List Int} (h : IMap w b n comp) (hb : Below B w w') (hlt : b < B) : IMap w' b n comp := by
  obtain ⟨D, ⟨es, clock, h1, h2, h3, h4⟩, h5⟩ := h
  exact ⟨D, ⟨es, clock, (hb.block b hlt).trans h1, h2, h3, h4⟩, h5⟩

section
variable {w0 w w' : World} {n ib rb B : Nat} {comp : List Int} {R : List (Int × Ed)} {Q : List Int} {qa : Option Addr} {c : Nat}

theorem Mem.begin {w0 w1 : World} {n ib rb k : Nat} {comp : List Int} {start : Int} (him : IMap w1 ib k comp) (hem : EMap w1 rb [(start, (0, 0, 0))]) (hb : Below w0.heap.size w0 w1) (i0 : w0.heap.size ≤ ib) (r0 : w0.heap.size ≤ rb) (ir : ib ≠ rb) (hs : 0 ≤ start ∧ start < n) :
    Mem w0 (w1.alloc (.cells #[.int .i64 start] 3)) n ib rb w1.heap.size comp [(start, (0, 0, 0))] [start] (some ⟨w1.heap.size, 0, none⟩) 1 := by
  have h1 := unr_new n [] start (0, 0, 0) hs.1 hs.2 rfl
  have h2 := unr_le n ([] : List (Int × Ed))
  refine { im := ⟨_, him.alloc _⟩, em := hem.alloc _, qu := OwnQ.made w1 start, bel := hb.alloc hb.size _, i0 := i0, r0 := r0, ir := ir, iB := him.lt, rB := hem.lt, sz := by simp, rng := ?_, lr := ?_, lq := ?_, wf := ?_ }
  · intro x hx
    obtain rfl : x = start := by simpa using hx
    exact hs
  · simp only [List.length_singleton]; omega
  · simp only [List.length_singleton]; omega
  · intro q hq
    obtain rfl : q = (start, (0, 0, 0)) := by simpa using hq
    unfold EdWf; simp

theorem Mem.alloc (h : Mem w0 w n ib rb B comp R Q qa c) (o : Obj) : Mem w0 (w.alloc o) n ib rb B comp R Q qa c :=
  { h with im := (by obtain ⟨k, hk⟩ := h.im; exact ⟨k, hk.alloc o⟩), em := h.em.alloc o, qu := h.qu.alloc o, bel := h.bel.alloc h.bel.size o, sz := (by have := h.sz; simp; omega) }

theorem Mem.queue (h : Mem w0 w n ib rb B comp R Q qa c) {Q' : List Int} {qa' : Option Addr} {c' : Nat} (hq : OwnQ w' B qa' c' Q') (hb : Below B w w') (hr : ∀ x ∈ Q', 0 ≤ x ∧ x < n) (hl : Q'.length + unr n R ≤ n + 1) : Mem w0 w' n ib rb B comp R Q' qa' c' :=
  { h with im := (by obtain ⟨k, hk⟩ := h.im; exact ⟨k, hk.below hb h.iB⟩), em := h.em.below hb h.rB, qu := hq, bel := h.bel.trans (hb.mono (by have := h.i0; have := h.iB; omega)), sz := Nat.le_trans h.sz hb.size, rng := hr, lq := hl }

theorem Mem.reach (h : Mem w0 w n ib rb B comp R Q qa c) {R' : List (Int × Ed)} (he : EMap w' rb R') (hg : w.grownBy w' (some rb)) (hr : R'.length + unr n R' ≤ n + 1) (hl : Q.length + unr n R' ≤ n + 1) (hw : ∀ q ∈ R', EdWf q.2) : Mem w0 w' n ib rb B comp R' Q qa c :=
  { h with im := (by obtain ⟨k, hk⟩ := h.im; exact ⟨k, hk.kept hg (by have := h.ir; simp; omega)⟩), em := he, qu := h.qu.kept hg (by intro k hk; cases hk; exact h.rB), bel := h.bel.grown hg h.bel.size (by intro k hk; cases hk; exact h.r0), sz := Nat.le_trans h.sz hg.size, lr := hr, lq := hl, wf := hw }
end

set_option maxRecDepth 100000 in
set_option maxHeartbeats 4000000 in
theorem cyc28 (pb ob oo oc cb co cc : Nat) (g : List (List Ed)) (comp : List Int) (start : Int) (w : World) (n m : Nat)
    (hpb : pb < w.heap.size) (hp1 : w.cell? ⟨pb, 1, none⟩ = some (.slice (some ⟨ob, oo, none⟩) n oc)) (hob : ob < w.heap.size) (hout : ∀ i, i < n → ∃ x, w.cell? ⟨ob, oo + i, none⟩ = some x ∧ IsEdges w x (g.getD i []))
    (hcb : cb < w.heap.size) (hcomp : ∀ i, i < m → w.cell? ⟨cb, co + i, none⟩ = some (.int .i64 (comp.getD i 0)))
    (hn : n ≤ 1048576) (hm : m ≤ 1048576) (hm0 : 1 ≤ m) (hgl : n = g.length) (hcl : m = comp.length) (hlen : ∀ i, i < n → (g.getD i []).length ≤ 1048576)
    (hst : comp.getD 0 0 = start) (hrng : ∀ c ∈ comp, 0 ≤ c ∧ c < n)
    (K : Nat) (e : Ed) (v : Int) (Rf : List (Int × Ed)) (K' : Nat) (l : List Ed) (hbfs : bfsE g start (fun x => decide (x ∈ comp)) K [(start, (0, 0, 0))] [start] = some (e, v, Rf)) (hback : backE start K' v Rf = some l) (hll : l.length ≤ n) :
    Calls Try.prog 28 #[.pointer (some ⟨pb, 0, none⟩), .slice (some ⟨cb, co, none⟩) m cc] w fun en w' => ∃ x, en = .returned x ∧ IsEdges w' x (l.reverse ++ [e]) ∧ Below w.heap.size w w' := by
  have c0 : w.cell? ⟨cb, co, none⟩ = some (.int .i64 start) := by have := hcomp 0 (by omega); rw [hst] at this; simpa using this
  have HO := show Hid _ from hout
  have HC := show Hid _ from hcomp
  have HG := show Hid _ from hgl
  have HCL := show Hid _ from hcl
  have HN := show Hid _ from hlen
  have HST := show Hid _ from hst
  have HR := show Hid _ from hrng
  have HB := show Hid _ from hbfs
  have HBK := show Hid _ from hback
  clear hout hcomp hgl hcl hlen hst hrng hbfs hback
  have hmm := run_makeMap67
  have hmm2 := @run_makeMap Try.prog
  go_enter Try.func28, Try.ntmps28
  go_wp2
  go_loopw [26] (fun i wr => ∃ k : Nat, k ≤ m ∧ i = .int .i64 k ∧ IMap wr w.heap.size k (comp.take k) ∧ Below w.heap.size w wr) (fun i _ => m - (intOf i).toNat)
  case atStart => exact ⟨0, Nat.zero_le _, rfl, IMap.made w, (Below.refl _ _).alloc (Nat.le_refl _) _⟩
  case round =>
    obtain ⟨k, hk, rfl, him, hbr⟩ := hrel
    by_cases hlt : k < m
    · have hcx : wr.cell? ⟨cb, co + k, none⟩ = some (.int .i64 (comp.getD k 0)) := (hbr.cell (by exact hcb)).trans (HC.out k hlt)
      have hz : I64 (comp.getD k 0) := by
        have := HR.out (comp.getD k 0) (by
          have hl := HCL.out
          simp [List.getD_eq_getElem?_getD, List.getElem?_eq_getElem (show k < comp.length by omega)])
        unfold I64; omega
      have htk : Hid (comp.take (k + 1) = comp.take k ++ [comp.getD k 0]) := by
        have hl := HCL.out
        unfold Hid
        rw [List.take_succ_eq_append_getElem (by omega)]
        simp [List.getD_eq_getElem?_getD, List.getElem?_eq_getElem (show k < comp.length by omega)]
      generalize comp.getD k 0 = z at hcx hz htk
      go_wp2_with (at_mapUpdate; refine wp_iupd _ rfl _ _ _ rfl w.heap.size k (comp.take k) rfl him (by unfold maxLen; omega) z rfl hz rfl ?_; intro w1 him1 hg1)
      go_roundw
      case rel => exact ⟨k + 1, by omega, by go_num, by rw [htk.out]; exact him1, hbr.grown hg1 hbr.size (fun j hj => by cases hj; exact Nat.le_refl _)⟩
      case measure => simp [intOf]; omega
    · have hkm : k = m := by omega
      subst hkm
      have hcl := HCL.out
      rw [List.take_of_length_le (by omega)] at him
      clear hcl
      have hsr : I64 start := by
        have hl := HCL.out
        have := HR.out start (by rw [← HST.out]; simp [List.getD_eq_getElem?_getD, List.getElem?_eq_getElem (show 0 < comp.length by omega)])
        unfold I64; omega
      go_wp2_with (refine wp_eins _ rfl _ _ _ rfl wr.heap.size [] rfl (EMap.made wr) (by unfold maxLen; simp) start rfl hsr (0, 0, 0) rfl ?_; intro w1 hem1 hg1)
      have him1 := (him.alloc (.map #[] 0)).kept hg1 (by have := him.lt; simp; omega)
      have hb1 : Below w.heap.size w w1 := (hbr.alloc hbr.size (.map #[] 0)).grown hg1 (by have := hbr.size; simp; omega) (fun j hj => by cases hj; exact hbr.size)
      have hrb := hem1.lt
      have hs0 := HR.out start (by rw [← HST.out]; have hl := HCL.out; simp [List.getD_eq_getElem?_getD, List.getElem?_eq_getElem (show 0 < comp.length by omega)])
      have hmem0 := Mem.begin (n := n) him1 hem1 hb1 (Nat.le_refl _) hbr.size (by have := him.lt; omega) hs0
      have hrbl : wr.heap.size < w1.heap.size := hrb
      generalize hrbe : wr.heap.size = rb at hmem0 hrb hem1 hrbl
      generalize hBe : w1.heap.size = B at hmem0 hrbl
      clear him him1 hem1 hb1 hg1 hmm hmm2 c0 hrb hsr hrbl
      have HRB := show Hid _ from hrbe
      have HBE := show Hid _ from hBe
      clear hrbe hBe hbr
      go_loopg [10] K (fun kk q wr2 => ∃ (R : List (Int × Ed)) (Q : List Int) (qa : Option Addr) (c : Nat), q = .slice qa Q.length c ∧ Hid (bfsE g start (fun x => decide (x ∈ comp)) kk R Q = some (e, v, Rf)) ∧ Mem w wr2 n w.heap.size rb B comp R Q qa c)
      case atStart => exact ⟨_, [start], _, _, rfl, HB, hmem0⟩
      case round =>
        obtain ⟨R, Q, qa, c, rfl, hbf, hmem⟩ := hrel
        clear hmem0
        match gk, Q, hbf, hmem with
        | 0, Q, hbf, hmem => have := hbf.out; simp [bfsE] at this
        | gk + 1, [], hbf, hmem => have := hbf.out; simp [bfsE] at this
        | gk + 1, x :: Q1, hbf, hmem =>
          obtain ⟨hx0, hxn⟩ := hmem.rng x (by simp)
          obtain ⟨xn, rfl⟩ := Int.eq_ofNat_of_zero_le hx0
          have hxn' : xn < n := by omega
          have hqu := hmem.qu
          obtain ⟨_, gq, off, rfl, _, _, hcell, _⟩ := hmem.qu
          have cq : wr.cell? ⟨gq, off, none⟩ = some (.int .i64 xn) := by have := hcell 0 (by simp); simpa using this
          have cp : wr.cell? ⟨pb, 1, none⟩ = some (.slice (some ⟨ob, oo, none⟩) n oc) := (hmem.bel.cell (by exact hpb)).trans hp1
          obtain ⟨xv, co1, hes⟩ := HO.out xn hxn'
          have co2 : wr.cell? ⟨ob, oo + xn, none⟩ = some xv := (hmem.bel.cell (by exact hob)).trans co1
          have hes2 := hes.later hmem.bel
          obtain ⟨ae, ce, rfl, hae⟩ := hes2.shape
          have HAE := show Hid _ from hae
          have hel := HN.out xn hxn'
          clear hcell co1 hx0 hxn hae
          have hgo : gout g (xn : Int) = g.getD xn [] := rfl
          have hbf' := hbf.out
          simp only [bfsE, hgo] at hbf'
          generalize hes0 : g.getD xn [] = es at hes hes2 hel co2 hbf'
          obtain ⟨o, R1, Q2, HSC⟩ : ∃ o R1 Q2, Hid (scanE start (fun x => decide (x ∈ comp)) es R Q1 = (o, R1, Q2)) := ⟨_, _, _, rfl⟩
          rw [HSC.out] at hbf'
          have HSO : Hid (∀ e', o = some e' → e' = e ∧ (xn : Int) = v ∧ R1 = Rf) := by
            intro e' he'
            rw [he'] at hbf'
            simpa using hbf'
          have HNO : Hid (o = none → bfsE g start (fun x => decide (x ∈ comp)) gk R1 Q2 = some (e, v, Rf)) := by
            intro he'
            rw [he'] at hbf'
            exact hbf'
          have HEW := show Hid _ from hes
          clear hes0 hbf' hbf hes hgo
          go_wp2_with (refine wp_qpop _ rfl _ _ rfl rfl B _ c _ (xn : Int) Q1 rfl rfl hqu ?_; intro qa' c' hq')
          have hmem1 : Mem w wr n w.heap.size rb B comp R Q1 qa' c' := hmem.queue hq' (Below.refl _ _) (fun x hx => hmem.rng x (by simp [hx])) (by have := hmem.lq; simp only [List.length_cons] at this; omega)
          clear hq' hqu hmem cq cp co2 hes2
          go_loopw [10, 55] (fun q i wr3 => ∃ (j : Nat) (R' : List (Int × Ed)) (Q' : List Int) (qa2 : Option Addr) (c2 : Nat), j ≤ es.length ∧ i = .int .i64 j ∧ q = .slice qa2 Q'.length c2 ∧ Hid (scanE start (fun x => decide (x ∈ comp)) (es.drop j) R' Q' = (o, R1, Q2)) ∧ Mem w wr3 n w.heap.size rb B comp R' Q' qa2 c2) (fun _ i _ => es.length - (intOf i).toNat)
          case atStart => exact ⟨0, R, Q1, _, _, Nat.zero_le _, rfl, rfl, HSC, hmem1⟩
          case round =>
            obtain ⟨j, R', Q', qa2, c2, hj, rfl, rfl, hsc, hmem2⟩ := hrel
            clear hmem1
            by_cases hjl : j < es.length
            · have hEW : IsEdges w (.slice ae es.length ce) es := HEW.out
              obtain ⟨eb, eo, ecap, hsl, hebl, hed⟩ := (IsEdges.later hEW hmem2.bel).pos (by omega)
              obtain ⟨k0, k1, k2⟩ := hed j hjl
              have hwf : EdWf (es.getD j (0, 0, 0)) := hEW.1 _ (by simp [List.getD_eq_getElem?_getD, List.getElem?_eq_getElem hjl])
              have hdr : es.drop j = es.getD j (0, 0, 0) :: es.drop (j + 1) := by
                rw [List.drop_eq_getElem_cons hjl]
                simp [List.getD_eq_getElem?_getD, List.getElem?_eq_getElem hjl]
              have hscj := hsc.out
              rw [hdr] at hscj
              obtain rfl : ae = some ⟨eb, eo, none⟩ := by simpa using congrArg (fun v => match v with | Value.slice a _ _ => a | _ => none) hsl
              generalize es.getD j (0, 0, 0) = ej at k0 k1 k2 hwf hscj
              obtain ⟨ef, et, ep⟩ := ej
              have HSJ := show Hid _ from hscj
              clear hed hsl hdr hscj hsc HSC hEW
              have hwt : I64 et := hwf.2.1
              by_cases hts : et = start
              · have hhit := HSJ.out
                rw [scanE, if_pos hts] at hhit
                simp only [Prod.mk.injEq] at hhit
                obtain ⟨ho, rfl, rfl⟩ := hhit
                obtain ⟨he1, hxv, hrf⟩ := HSO.out _ ho.symm
                subst hrf
                have HE1 := show Hid _ from he1
                have HXV := show Hid _ from hxv
                have hem2 := hmem2.em
                have hbel2 := hmem2.bel
                have hwfR := hmem2.wf
                have hwx : I64 (xn : Int) := by unfold I64; omega
                have hrb2 : rb < wr.heap.size := hem2.lt
                have hw0 := hmem2.bel.size
                have hll2 := hll
                subst hts
                clear HSJ HSO HNO ho he1 hxv hmem2 hwt HB HC HR HG HO HN HCL HST HEW HAE
                go_wp2
                have hown0 := made1 (wr.alloc (.cells #[.int .i64 ef, .int .i64 et, .int .i64 ep] 40)) (ef, et, ep)
                have hem3 := (hem2.alloc (.cells #[.int .i64 ef, .int .i64 et, .int .i64 ep] 40)).alloc (.cells #[.int .i64 ef, .int .i64 et, .int .i64 ep] 40)
                have hbel3 := (hbel2.alloc hbel2.size (.cells #[.int .i64 ef, .int .i64 et, .int .i64 ep] 40)).alloc (by have := hbel2.size; simp; omega) (.cells #[.int .i64 ef, .int .i64 et, .int .i64 ep] 40)
                obtain ⟨Bc, hBc⟩ : ∃ Bc, Bc = (wr.alloc (.cells #[.int .i64 ef, .int .i64 et, .int .i64 ep] 40)).heap.size := ⟨_, rfl⟩
                have hBr : rb < Bc := by rw [hBc]; simp; omega
                have hBw : w.heap.size ≤ Bc := by rw [hBc]; simp; omega
                have hBs : Bc ≤ ((wr.alloc (.cells #[.int .i64 ef, .int .i64 et, .int .i64 ep] 40)).alloc (.cells #[.int .i64 ef, .int .i64 et, .int .i64 ep] 40)).heap.size := by rw [hBc]; simp
                rw [← hBc] at hown0
                clear k0 k1 k2 hem2 hbel2 hrb2
                go_loopg [14, 15] K' (fun kk cy at' wr4 => ∃ (l1 l2 : List Ed) (x : Int) (gc cap : Nat), at' = .int .i64 x ∧ I64 x ∧ Hid (backE et kk x R' = some l2) ∧ Hid (l = l1 ++ l2) ∧ cy = .slice (some ⟨gc, 0, none⟩) (l1.length + 1) cap ∧ wr4.ownsRow Bc 40 3 (.slice (some ⟨gc, 0, none⟩) (l1.length + 1) cap) (l1.length + 1) (edCells ((ef, et, ep) :: l1)) ∧ EMap wr4 rb R' ∧ Below w.heap.size w wr4 ∧ Bc ≤ wr4.heap.size ∧ Hid (∀ q ∈ (ef, et, ep) :: l1, EdWf q))
                case atStart =>
                  refine ⟨[], l, _, _, _, rfl, hwx, by unfold Hid; rw [HXV.out]; exact HBK.out, by unfold Hid; rfl, rfl, by have := hown0; rw [hBc] at this ⊢; simpa using this, hem3, hbel3, hBs, by unfold Hid; simpa using hwf⟩
                case round =>
                  obtain ⟨l1, l2, x, gc, cap, rfl, hx, hb4, hl4, rfl, hown4, hem4, hbel4, hB4, hwf4⟩ := hrel
                  clear hown0 hem3 hbel3 hBs hBc
                  match gk, hb4 with
                  | 0, hb4 => have := hb4.out; simp [backE] at this
                  | gk + 1, hb4 =>
                    have hb5 := hb4.out
                    rw [backE] at hb5
                    by_cases hxs : x = et
                    · rw [if_pos hxs] at hb5
                      obtain rfl : [] = l2 := by simpa using hb5
                      have hxs' := hxs.symm
                      subst hxs'
                      clear hb5 hb4
                      have hll3 : l = l1 := by have := hl4.out; simpa using this
                      subst hll3
                      have hgc := (hown4.lt gc rfl).1
                      go_wp2_with ((go_at_call 30; refine (rev30 Bc gc (l.length + 1) cap ((ef, et, ep) :: l) _ hgc (by omega) (by omega) rfl hown4).mono ?_; rintro e' w2 ⟨rfl, hown5, hb5⟩))
                      go_ret
                      have he : IsEdges w2 (.slice (some ⟨gc, 0, none⟩) (l.length + 1) cap) (l.reverse ++ [(ef, et, ep)]) := by
                        have hq : ((ef, et, ep) :: l).reverse = l.reverse ++ [(ef, et, ep)] := by simp
                        rw [hq] at hown5
                        have hlq : (l.reverse ++ [(ef, et, ep)]).length = l.length + 1 := by simp
                        rw [← hlq] at hown5 ⊢
                        exact edges_of_row (fun q hq' => hwf4.out q (by rw [← hq] at hq'; exact List.mem_reverse.1 hq')) hown5
                      rw [HE1.out] at he
                      exact ⟨_, rfl, he, hbel4.trans (hb5.mono hBw)⟩
                    · rw [if_neg hxs] at hb5
                      cases hlR : lookE R' x with
                      | none => rw [hlR] at hb5; cases hb5
                      | some e2 =>
                        rw [hlR] at hb5
                        simp only [Option.map_eq_some_iff] at hb5
                        obtain ⟨l3, hb6, rfl⟩ := hb5
                        have hlk := fun o => (hem4.alloc o).look hx
                        have hlk0 := hem4.look hx
                        rw [hlR] at hlk hlk0
                        simp only [Option.getD_some] at hlk hlk0
                        have hwe : EdWf e2 := hwfR _ (lookE_mem hlR)
                        obtain ⟨f2, t2, p2⟩ := e2
                        simp only [edv] at hlk hlk0
                        have hl5 : l1.length + 1 ≤ l.length := by have := hl4.out; rw [this]; simp
                        have hw4 : w.heap.size ≤ wr.heap.size := hbel4.size
                        have HB6 := show Hid _ from hb6
                        have HLR := show Hid _ from hlR
                        clear hb4 hb6 hlR
                        have hfd := fun wx => field40 f2 t2 p2 wx
                        go_wp2_with ((at_builtin; refine wp_cpush _ rfl _ _ rfl Bc gc cap (l1.length + 1) ((ef, et, ep) :: l1) rfl (hown4.kept (World.grownBy_alloc _ _ none) (.inr (by simp [Value.ownBlock]))) (f2, t2, p2) wr.heap.size rfl (by unfold EdAt; simp) (by omega) (by simp; omega) ?_; intro gc' cap' w5 hown5 hb5; have hem5 := (hem4.alloc (.cells #[.int .i64 f2, .int .i64 t2, .int .i64 p2] 40)).below hb5 hBr; have hlk5 : (Instr.lookup 68 (.map (some rb)) (.int .i64 x) false).run Try.prog w5 = .ok (.agg #[.int .i64 f2, .int .i64 t2, .int .i64 p2]) w5 := (by have h9 := hem5.look hx; rw [HLR.out] at h9; exact h9)))
                        go_roundg gk
                        case rel =>
                          refine ⟨l1 ++ [(f2, t2, p2)], l3, f2, gc', cap', rfl, hwe.1, HB6, by unfold Hid; rw [hl4.out]; simp, by simp, by simpa using hown5, hem5, (hbel4.alloc hw4 _).trans (hb5.mono hBw), Nat.le_trans hB4 (Nat.le_trans (by simp) hb5.size), ?_⟩
                          intro q hq
                          rw [← List.cons_append] at hq
                          rcases List.mem_append.1 hq with hq | hq
                          · exact hwf4.out q hq
                          · obtain rfl : q = (f2, t2, p2) := by simpa using hq
                            exact hwe
                        case measure => omega
              · have hts' : (et == start) = false := by simpa using hts
                have hlk := fun o => (hmem2.em.alloc o).look_ok hwt
                obtain ⟨ki, him2⟩ := hmem2.im
                have hli := fun o1 o2 => ((him2.alloc o1).alloc o2).look hwt
                have HS2 : Hid (scanE start (fun x => decide (x ∈ comp)) ((ef, et, ep) :: es.drop (j + 1)) R' Q' = if ((lookE R' et).isNone && decide (et ∈ comp)) = true then scanE start (fun x => decide (x ∈ comp)) (es.drop (j + 1)) ((et, (ef, et, ep)) :: R') (Q' ++ [et]) else scanE start (fun x => decide (x ∈ comp)) (es.drop (j + 1)) R' Q') := by
                  unfold Hid
                  rw [scanE, if_neg hts]
                cases hlR : lookE R' et with
                | some e2 =>
                  rw [hlR] at hlk HS2
                  simp only [Option.getD_some, Option.isSome_some, edv] at hlk
                  have HS3 : Hid (scanE start (fun x => decide (x ∈ comp)) (es.drop (j + 1)) R' Q' = (o, R1, Q2)) := by
                    have h1 := HSJ.out
                    rw [HS2.out] at h1
                    unfold Hid
                    simpa using h1
                  clear HS2 HSJ him2 hlR hli
                  go_wp2
                  go_roundw
                  case rel => exact ⟨j + 1, R', Q', qa2, c2, by omega, by go_num, rfl, HS3, (hmem2.alloc _).alloc _⟩
                  case measure => simp [intOf]; omega
                | none =>
                  rw [hlR] at hlk HS2
                  simp only [Option.getD_none, Option.isSome_none, edv] at hlk
                  by_cases hin : et ∈ comp
                  · have hdec : decide (et ∈ comp) = true := decide_eq_true hin
                    rw [hdec] at hli
                    have HS3 : Hid (scanE start (fun x => decide (x ∈ comp)) (es.drop (j + 1)) ((et, (ef, et, ep)) :: R') (Q' ++ [et]) = (o, R1, Q2)) := by
                      have h1 := HSJ.out
                      rw [HS2.out] at h1
                      unfold Hid
                      simpa [hdec] using h1
                    have hrg := HR.out et hin
                    have hnew := unr_new n R' et (ef, et, ep) hrg.1 hrg.2 (by rw [hlR]; rfl)
                    have hlr := hmem2.lr
                    have hlq := hmem2.lq
                    have hrb2 := hmem2.em.lt
                    have hB2 := hmem2.sz
                    clear HS2 HSJ him2 hlR hdec
                    go_wp2_with (first
                      | (at_mapUpdate; refine wp_eupd _ rfl _ _ _ rfl rb R' rfl ((hmem2.em.alloc _).alloc _) (by unfold maxLen; omega) et rfl hwt (ef, et, ep) rfl ?_; intro w4 hem4 hg4; have d1 := hg4.cell (a := ⟨wr.heap.size, 1, none⟩) (v := .int .i64 et) (by simp) (by simp; omega))
                      | (at_builtin; refine wp_qpush _ rfl _ _ rfl B qa2 c2 _ Q' rfl rfl ((((hmem2.qu.alloc _).alloc _).kept hg4 (by intro k hk; cases hk; exact hmem2.rB)).alloc _) et ⟨w4.heap.size, 0, none⟩ rfl (by simp) (by omega) (by have := hg4.size; simp at this; simp; omega) ?_; intro qa3 c3 w5 hq5 hb5))
                    have hM1 := ((hmem2.alloc (.cells #[.int .i64 ef, .int .i64 et, .int .i64 ep] 40)).alloc (.cells #[.int .i64 0, .int .i64 0, .int .i64 0] 40)).reach hem4 hg4 (by simp only [List.length_cons]; omega) (by omega) (by
                      intro q hq
                      rcases List.mem_cons.1 hq with rfl | hq
                      · exact hwf
                      · exact hmem2.wf q hq)
                    have hM2 := (hM1.alloc (.cells #[.int .i64 et] 3)).queue hq5 hb5 (by
                      intro x hx
                      rcases List.mem_append.1 hx with hx | hx
                      · exact hmem2.rng x hx
                      · obtain rfl : x = et := by simpa using hx
                        exact hrg) (by simp only [List.length_append, List.length_singleton]; omega)
                    go_wp2
                    go_roundw
                    case rel => exact ⟨j + 1, _, _, _, _, by omega, by go_num, by simp, HS3, hM2⟩
                    case measure => simp [intOf]; omega
                  · have hdec : decide (et ∈ comp) = false := decide_eq_false hin
                    rw [hdec] at hli
                    have HS3 : Hid (scanE start (fun x => decide (x ∈ comp)) (es.drop (j + 1)) R' Q' = (o, R1, Q2)) := by
                      have h1 := HSJ.out
                      rw [HS2.out] at h1
                      unfold Hid
                      simpa [hdec] using h1
                    clear HS2 HSJ him2 hlR hdec hin
                    go_wp2
                    go_roundw
                    case rel => exact ⟨j + 1, R', Q', qa2, c2, by omega, by go_num, rfl, HS3, (hmem2.alloc _).alloc _⟩
                    case measure => simp [intOf]; omega
            · have hend := hsc.out
              rw [List.drop_eq_nil_of_le (by omega)] at hend
              simp only [scanE, Prod.mk.injEq] at hend
              obtain ⟨rfl, rfl, rfl⟩ := hend
              have HB2 := show Hid _ from HNO.out rfl
              clear HSO HNO HSC hsc
              go_wp2
              go_roundg gk
              case rel => exact ⟨_, _, _, _, rfl, HB2, hmem2⟩
              case measure => omega
end Go.Proofs.Qxb6603412a
