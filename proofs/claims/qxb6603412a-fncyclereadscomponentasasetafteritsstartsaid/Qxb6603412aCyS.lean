/-
  The queue of 'cycle': popped at its front, pushed at its end.
-/
import Derived.Test.Qxb6603412aCyR
import Derived.ArgAppend
namespace Go.Proofs.Qxb6603412a
open Go.RowKit Go.Maps
set_option linter.unusedVariables false

def OwnQ (w : World) (B : Nat) (a : Option Addr) (c : Nat) (Q : List Int) : Prop :=
  Q.length ≤ c ∧ ∃ g off, a = some ⟨g, off, none⟩ ∧ B ≤ g ∧ g < w.heap.size ∧ (∀ i, i < Q.length → w.cell? ⟨g, off + i, none⟩ = some (.int .i64 (Q.getD i 0))) ∧
    ∀ i, i < c → (w.cell? ⟨g, off + i, none⟩).isSome = true ∧ w.frozen? ⟨g, off + i, none⟩ = false

theorem OwnQ.kept {w w' : World} {B : Nat} {a : Option Addr} {c : Nat} {Q : List Int} (h : OwnQ w B a c Q) {row : Option Nat} (hg : w.grownBy w' row) (hne : ∀ k, row = some k → k < B) : OwnQ w' B a c Q := by
  obtain ⟨h1, g, off, rfl, h2, h3, h4, h5⟩ := h
  have hb : w'.heap[g]? = w.heap[g]? := hg.block g h3 (fun e => by have := hne g e.symm; omega)
  refine ⟨h1, g, off, rfl, h2, Nat.lt_of_lt_of_le h3 hg.size, fun i hi => ?_, fun i hi => ?_⟩
  · rw [World.cell?_of_block (w := w) (a := ⟨g, off + i, none⟩) hb]; exact h4 i hi
  · rw [World.cell?_of_block (w := w) (a := ⟨g, off + i, none⟩) hb, World.frozen?_of_block (w := w) (a := ⟨g, off + i, none⟩) hb]; exact h5 i hi

theorem OwnQ.alloc {w : World} {B : Nat} {a : Option Addr} {c : Nat} {Q : List Int} (h : OwnQ w B a c Q) (o : Obj) : OwnQ (w.alloc o) B a c Q := h.kept (World.grownBy_alloc w o none) (by simp)

theorem OwnQ.made (w : World) (z : Int) : OwnQ (w.alloc (.cells #[.int .i64 z] 3)) w.heap.size (some ⟨w.heap.size, 0, none⟩) 1 [z] := by
  refine ⟨Nat.le_refl _, w.heap.size, 0, rfl, Nat.le_refl _, by simp, fun i hi => ?_, fun i hi => ?_⟩
  · obtain rfl : i = 0 := by simpa using hi
    simp
  · obtain rfl : i = 0 := by omega
    simp

/-- A row of ints of the call's own, as a queue. -/
theorem OwnQ.ofRow {w : World} {B0 B n : Nat} {v : Value} {Q : List Int} (hn : n = Q.length) (h0 : 0 < n) (hown : w.ownsRow B 3 1 v n (Q.map (Value.int .i64))) (hB : B0 ≤ B) : ∃ a c, v = .slice a n c ∧ OwnQ w B0 a c Q := by
  subst hn
  rcases hown.2 with ⟨_, h⟩ | ⟨g, cap, cur, rfl, h1, h2, h3, h4, h5, h6⟩
  · omega
  · refine ⟨_, _, rfl, h3, g, 0, rfl, Nat.le_trans hB h1, (Array.getElem?_eq_some_iff.1 h2).1, fun i hi => ?_, fun i hi => ?_⟩
    · rw [Nat.zero_add, hown.cellAt i (by omega), List.getElem?_map, List.getElem?_eq_getElem hi]
      simp [List.getD_eq_getElem?_getD, List.getElem?_eq_getElem hi]
    · rw [Nat.zero_add]
      exact ⟨by rw [cell_of_row w g i cur 3 (0, 0) h2]; simp [show i < cur.size by omega], frozen_of_row w g i cur 3 h2⟩

section
variable (w : World) {ops : Array Oper} {rest : List Oper} {o : Oper} {a : Act} {Q : Exit → Act → World → Prop}

/-- 'queue = queue[1:]'. -/
theorem wp_qpop (hg : o.guard = none) (s l : Operand) (hop : o.op = Op.slice 28 s (some l) none none) (hl : a.eval l = .int .i64 1) (B : Nat) (qa : Option Addr) (c n : Nat) (z : Int) (q : List Int) (hn : n = q.length + 1) (hs : a.eval s = .slice qa n c) (h : OwnQ w B qa c (z :: q))
    (hK : ∀ qa' c', OwnQ w B qa' c' q → wpList Try.prog ops Q rest (a.put o.dst (.slice qa' q.length c')) w) : wpList Try.prog ops Q (o :: rest) a w := by
  subst hn
  refine wpList_plain hg fun K' hK' => ?_
  obtain ⟨h1, g, off, rfl, h2, h3, h4, h5⟩ := h
  simp only [List.length_cons] at h1 h4
  have hrun : (Instr.slice 28 (.slice (some ⟨g, off, none⟩) (q.length + 1) c) (some (.int .i64 1)) none none).run Try.prog w = .ok (.slice (if c = 1 then some ⟨g, off, none⟩ else some ⟨g, off + 1, none⟩) q.length (c - 1)) w := by
    rw [run_slice_l w 28 (some ⟨g, off, none⟩) (q.length + 1) c (by kernel_rfl) .i64 1 (by omega) (by omega)]
    have e : (sizeOf (Try.prog.elem 28)).run Try.prog w = .ok 1 w := by kernel_rfl
    rw [e]
    simp [Result.andThen, sliced, Addr.add]
  have hrun' : (Instr.sliceAt 28 (.slice (some ⟨g, off, none⟩) (q.length + 1) c) (some (.int .i64 1)) none none).run Try.prog w = .ok (.slice (if c = 1 then some ⟨g, off, none⟩ else some ⟨g, off + 1, none⟩) q.length (c - 1)) w := by
    rw [run_sliceAt_slice w 28 _ _ _ _ (by kernel_rfl)]; exact hrun
  unfold Oper.wp
  simp [execOp, hop, hs, hl, hrun', Result.andThen]
  refine hK' _ _ (hK _ _ ?_)
  by_cases hc : c = 1
  · rw [if_pos hc]
    have hq : q.length = 0 := by omega
    exact ⟨by omega, g, off, rfl, h2, h3, (fun i hi => by omega), (fun i hi => by omega)⟩
  · rw [if_neg hc]
    refine ⟨by omega, g, off + 1, rfl, h2, h3, fun i hi => ?_, fun i hi => ?_⟩
    · have := h4 (i + 1) (by omega)
      rw [show off + 1 + i = off + (i + 1) from by omega, this]
      rfl
    · have := h5 (i + 1) (by omega)
      rw [show off + 1 + i = off + (i + 1) from by omega]
      exact this

/-- 'queue = append(queue, z)'. -/
theorem wp_qpush (hg : o.guard = none) (s x : Operand) (hop : o.op = Op.call { callee := Callee.builtin Builtin.append, args := #[s, x], argTypes := #[28, 28] }) (B : Nat) (qa : Option Addr) (c n : Nat) (q : List Int) (hn : n = q.length) (hs : a.eval s = .slice qa n c) (h : OwnQ w B qa c q) (z : Int)
    (ad : Addr) (hx : a.eval x = .slice (some ad) 1 1) (hc : w.cell? ad = some (.int .i64 z)) (b1 : q.length ≤ 1048577)
    (hB : B ≤ w.heap.size)
    (hK : ∀ qa' c' w', OwnQ w' B qa' c' (q ++ [z]) → Below B w w' → wpList Try.prog ops Q rest (a.put o.dst (.slice qa' (q.length + 1) c')) w') : wpList Try.prog ops Q (o :: rest) a w := by
  subst hn
  obtain ⟨h1, g, off, rfl, h2, h3, h4, h5⟩ := h
  obtain ⟨i0, hi, hz0, hz1, hz2⟩ := info_parts Try.info3
  refine wpList_append_arg w hg s x 28 hop 3 i0 (.int .i64 0) 1 8 Try.underlying28 hi hz0 hz1 hz2 rfl (by decide) g off q.length c (q.map (Value.int .i64)) hs (by simp) ?_ ad 1 1 [.int .i64 z] hx rfl ?_ ?_ ?_ (by unfold maxLen; omega) (by omega) ?_ ?_
  · intro j u hj
    have hjl : j < q.length := by
      have := (List.getElem?_eq_some_iff.1 hj).1
      simpa using this
    rw [h4 j hjl]
    simp [List.getElem?_map, List.getElem?_eq_getElem hjl] at hj
    rw [← hj]
    simp [List.getD_eq_getElem?_getD, List.getElem?_eq_getElem hjl]
  · intro j u hj
    match j, hj with
    | 0, hj =>
      simp at hj
      subst hj
      have hsp := World.cell?_spot hc
      obtain ⟨b', o', sp⟩ := ad
      simp at hsp
      subst hsp
      simpa [Addr.add] using hc
  · intro u hu
    simp at hu
    subst hu
    rfl
  · intro hroom j hj
    have := h5 (q.length + j) (by simp at hj; omega)
    rw [Nat.mul_one, Nat.add_assoc]
    exact this
  · intro hroom
    have e : w.setCells g (off + q.length * 1) [.int .i64 z] = w.setCell ⟨g, off + q.length, none⟩ (.int .i64 z) := by rw [Nat.mul_one]; rfl
    rw [e]
    refine hK _ _ _ ⟨by simp; omega, g, off, rfl, h2, by simpa using h3, fun i hi => ?_, fun i hi => ?_⟩ ((Below.refl _ _).setCell (by exact h2) _)
    · have hi' : i < q.length + 1 := by simpa using hi
      by_cases e : i = q.length
      · subst e
        obtain ⟨u, hu⟩ := Option.isSome_iff_exists.1 (h5 q.length (by omega)).1
        rw [World.cell?_setCell_same _ _ _ hu]
        simp [List.getD_eq_getElem?_getD]
      · rw [World.cell?_setCell_other _ _ _ _ (by intro e'; injection e' with _ e2; omega), h4 i (by omega)]
        simp [List.getD_eq_getElem?_getD, List.getElem?_append_left (show i < q.length by omega)]
    · obtain ⟨u, hu⟩ := Option.isSome_iff_exists.1 (h5 i hi).1
      obtain ⟨u', hu'⟩ := cell?_setCell_some (p := ⟨g, off + q.length, none⟩) (x := .int .i64 z) hu
      exact ⟨by rw [hu']; rfl, by rw [World.frozen?_setCell]; exact (h5 i hi).2⟩
  · intro hfull v' w' hown hgrow
    have hbel : Below B w w' := (Below.refl _ _).grown hgrow hB (by intro k hk; cases hk)
    obtain ⟨a', c', rfl, hq⟩ := OwnQ.ofRow (B0 := B) (n := q.length + 1) (Q := q ++ [z]) (by simp) (by omega) (by simpa using hown) hB
    exact hK _ _ _ hq hbel
end
end Go.Proofs.Qxb6603412a
