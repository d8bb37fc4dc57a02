/-
  The cycle's own row: made with one edge, pushed at its end.
-/
import Derived.Test.Qxb6603412aCyT
import Derived.Deep.AppendLies
namespace Go.Proofs.Qxb6603412a
open Go.RowKit Go.Maps
set_option linter.unusedVariables false

theorem edCells_app (l : List Ed) (e : Ed) : edCells (l ++ [e]) = edCells l ++ [.int .i64 e.1, .int .i64 e.2.1, .int .i64 e.2.2] := by
  simp [edCells, List.flatMap_append]

theorem made1 (w : World) (e : Ed) : (w.alloc (.cells #[.int .i64 e.1, .int .i64 e.2.1, .int .i64 e.2.2] 40)).ownsRow w.heap.size 40 3 (.slice (some ⟨w.heap.size, 0, none⟩) 1 1) 1 (edCells [e]) := by
  refine ⟨rfl, .inr ⟨w.heap.size, 1, #[.int .i64 e.1, .int .i64 e.2.1, .int .i64 e.2.2], rfl, Nat.le_refl _, by show (w.heap.push _)[w.heap.size]? = _; simp, Nat.le_refl _, by unfold maxLen; omega, rfl, rfl⟩⟩

theorem lookE_mem : ∀ {R : List (Int × Ed)} {x : Int} {e : Ed}, lookE R x = some e → (x, e) ∈ R
  | (y, e') :: R, x, e, h => by
    by_cases hy : y = x
    · subst hy
      rw [lookE_cons_eq] at h
      obtain rfl : e' = e := by simpa using h
      simp
    · rw [lookE_cons_ne hy] at h
      exact List.mem_cons_of_mem _ (lookE_mem h)

theorem field40 (a b c : Int) (w : World) : (Instr.field 40 (.agg #[.int .i64 a, .int .i64 b, .int .i64 c]) 0).run Try.prog w = .ok (.int .i64 a) w := by
  kernel_rfl

section
variable (w : World) {ops : Array Oper} {rest : List Oper} {o : Oper} {a : Act} {Q : Exit → Act → World → Prop}

/-- 'cycle = append(cycle, e)'. -/
theorem wp_cpush (hg : o.guard = none) (s x : Operand) (hop : o.op = Op.call { callee := Callee.builtin Builtin.append, args := #[s, x], argTypes := #[32, 32] }) (B : Nat) (g c n : Nat) (es : List Ed) (hs : a.eval s = .slice (some ⟨g, 0, none⟩) n c) (h : w.ownsRow B 40 3 (.slice (some ⟨g, 0, none⟩) n c) n (edCells es)) (e : Ed)
    (b : Nat) (hx : a.eval x = .slice (some ⟨b, 0, none⟩) 1 1) (hc : EdAt w b 0 e) (b1 : n ≤ 1048577) (hB : B ≤ w.heap.size)
    (hK : ∀ g' c' w', w'.ownsRow B 40 3 (.slice (some ⟨g', 0, none⟩) (n + 1) c') (n + 1) (edCells (es ++ [e])) → Below B w w' → wpList Try.prog ops Q rest (a.put o.dst (.slice (some ⟨g', 0, none⟩) (n + 1) c')) w') : wpList Try.prog ops Q (o :: rest) a w := by
  obtain ⟨i0, hi, hz0, hz1, hz2⟩ := info_parts Try.info40
  refine wpList_append_lies (w := w) hg s x 32 hop B 40 i0 (.agg #[.int .i64 0, .int .i64 0, .int .i64 0]) 3 24 (by kernel_rfl) hi hz0 hz1 hz2 rfl (by decide) _ n (edCells es) hs h ⟨b, 0, none⟩ 1 1 [.int .i64 e.1, .int .i64 e.2.1, .int .i64 e.2.2] hx rfl ?_ ?_ (by decide) (by unfold maxLen; omega) (by omega) hB _ rfl ?_
  · intro j u hj
    match j, hj with
    | 0, hj => simp at hj; subst hj; exact hc.1
    | 1, hj => simp at hj; subst hj; exact hc.2.1
    | 2, hj => simp at hj; subst hj; exact hc.2.2
  · intro u hu
    simp at hu
    rcases hu with rfl | rfl | rfl <;> rfl
  · intro g' c' w' h1 h2 h3 h4
    refine hK _ _ _ (by rw [edCells_app]; exact h1) ((Below.refl _ _).grown h2 hB ?_)
    intro k hk
    cases hk
    exact (h.lt g rfl).1
end
end Go.Proofs.Qxb6603412a
