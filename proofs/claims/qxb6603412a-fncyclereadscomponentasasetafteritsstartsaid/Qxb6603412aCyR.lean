/-
  The two maps of 'cycle'.
-/
import Derived.Test.Qxb6603412aCyQ
import Derived.Test.Qxb6603412aCyF
import Derived.Maps.OwnSet
import Derived.Maps.OwnOps
namespace Go.Proofs.Qxb6603412a
open Go.RowKit Go.Maps
set_option linter.unusedVariables false

theorem law3 : Keyed Try.prog 3 := int_keyed Try.underlying3
def edv (e : Ed) : Value := .agg #[.int .i64 e.1, .int .i64 e.2.1, .int .i64 e.2.2]
def edDat (e : Ed) : DataW Unit := .agg [.lit (.int .i64 e.1), .lit (.int .i64 e.2.1), .lit (.int .i64 e.2.2)]
/-- How an edge reads as a map's element. -/
def edElem (v : Value) : Option (DataW Unit × List MemPlace) :=
  match v with
  | .agg cs =>
    match cs.toList with
    | [.int .i64 a, .int .i64 b, .int .i64 c] => some (edDat (a, b, c), [])
    | _ => none
  | _ => none

theorem edElem_mk (e : Ed) : edElem (edv e) = some (edDat e, []) := rfl

theorem edDat_inj {e e' : Ed} (h : edDat e = edDat e') : e = e' := by
  obtain ⟨a, b, c⟩ := e
  obtain ⟨a', b', c'⟩ := e'
  simp [edDat] at h
  simp [h]

theorem edElem_inv {v : Value} {e : Ed} {ps : List MemPlace} (h : edElem v = some (edDat e, ps)) : v = edv e := by
  unfold edElem at h
  split at h
  · rename_i cs
    split at h
    · rename_i a b c hc
      simp only [Option.some.injEq, Prod.mk.injEq] at h
      have := edDat_inj h.1
      subst this
      have e2 : cs = #[.int .i64 a, .int .i64 b, .int .i64 c] := by
        apply Array.ext'
        rw [hc]
      rw [e2]
      rfl
    · cases h
  · cases h

def I64 (k : Int) : Prop := -9223372036854775808 ≤ k ∧ k ≤ 9223372036854775807
theorem wf_of {k : Int} (h : I64 k) : (Lit.int .i64 k).wf = true := WalkArith.wf_i64 h
theorem key_of {k : Int} (h : I64 k) : keyOf Try.prog 3 (.int .i64 k) = some (.int .i64 k) := keyOf_int_mk Try.underlying3 (wf_of h)
theorem key_ne {a b : Int} (h : a ≠ b) : (Lit.int .i64 a) ≠ (Lit.int .i64 b) := fun e => h (by cases e; rfl)

theorem zero40 (w : World) : (zeroValue 40).run Try.prog w = .ok (edv (0, 0, 0)) w := by kernel_rfl
theorem zero4 (w : World) : (zeroValue 4).run Try.prog w = .ok (.bool false) w := by kernel_rfl

/-- The map 'reached' holds the entries R. -/
def EMap (w : World) (b : Nat) (R : List (Int × Ed)) : Prop :=
  ∃ D : DataW Unit, w.ownsMap Try.prog 3 edElem b R.length D ∧
    ∀ k, (∀ e, lookE R k = some e → Maps.has D (.int .i64 k) = true ∧ ∀ z, D.atKey (.int .i64 k) z = edDat e) ∧ (lookE R k = none → Maps.has D (.int .i64 k) = false)

theorem EMap.kept {w w' : World} {b : Nat} {R : List (Int × Ed)} (h : EMap w b R) {row : Option Nat} (hg : w.grownBy w' row) (hne : some b ≠ row) : EMap w' b R := by
  obtain ⟨D, h1, h2⟩ := h
  exact ⟨D, h1.kept hg hne, h2⟩
theorem EMap.alloc {w : World} {b : Nat} {R : List (Int × Ed)} (h : EMap w b R) (o : Obj) : EMap (w.alloc o) b R := h.kept (World.grownBy_alloc w o none) (by simp)
theorem EMap.lt {w : World} {b : Nat} {R : List (Int × Ed)} (h : EMap w b R) : b < w.heap.size := by
  obtain ⟨D, h1, h2⟩ := h
  exact h1.lt
theorem EMap.made (w : World) : EMap (w.alloc (.map #[] 0)) w.heap.size [] := by
  refine ⟨.map [], World.ownsMap_made _ _ _ _, fun k => ⟨(fun e he => (by cases he)), (fun _ => rfl)⟩⟩

theorem EMap.look {w : World} {b : Nat} {R : List (Int × Ed)} (h : EMap w b R) {k : Int} (hk : I64 k) :
    (Instr.lookup 68 (.map (some b)) (.int .i64 k) false).run Try.prog w = .ok (edv ((lookE R k).getD (0, 0, 0))) w := by
  obtain ⟨D, h1, h2⟩ := h
  obtain ⟨v, ps, hrun, hv⟩ := h1.lookup law3 Try.underlying68 (zero40 w) (edElem_mk (0, 0, 0)) (key_of hk)
  rw [hrun]
  cases hl : lookE R k with
  | none =>
    rw [Maps.atKey_of_not_has ((h2 k).2 hl)] at hv
    rw [edElem_inv hv]; rfl
  | some e =>
    rw [((h2 k).1 e hl).2] at hv
    rw [edElem_inv hv]; rfl

theorem EMap.look_ok {w : World} {b : Nat} {R : List (Int × Ed)} (h : EMap w b R) {k : Int} (hk : I64 k) :
    (Instr.lookup 68 (.map (some b)) (.int .i64 k) true).run Try.prog w = .ok (.tuple #[edv ((lookE R k).getD (0, 0, 0)), .bool (lookE R k).isSome]) w := by
  obtain ⟨D, h1, h2⟩ := h
  obtain ⟨v, ps, hrun, hv⟩ := h1.look_ok law3 Try.underlying68 (zero40 w) (edElem_mk (0, 0, 0)) (key_of hk)
  rw [hrun]
  cases hl : lookE R k with
  | none =>
    rw [Maps.atKey_of_not_has ((h2 k).2 hl)] at hv
    rw [edElem_inv hv, (h2 k).2 hl]; rfl
  | some e =>
    rw [((h2 k).1 e hl).2] at hv
    rw [edElem_inv hv, ((h2 k).1 e hl).1]; rfl

theorem EMap.upd {w : World} {b : Nat} {R : List (Int × Ed)} (h : EMap w b R) (hn : R.length < maxLen) {k : Int} (hk : I64 k) (e : Ed) :
    ∃ w', (Instr.mapUpdate 68 (.map (some b)) (.int .i64 k) (edv e)).run Try.prog w = .ok () w' ∧ EMap w' b ((k, e) :: R) ∧ w.grownBy w' (some b) := by
  obtain ⟨D, h1, h2⟩ := h
  obtain ⟨w', hrun, r1, r2⟩ := h1.update law3 Try.underlying68 hn (key_of hk) (edElem_mk e)
  refine ⟨w', hrun, ⟨_, r1, fun k' => ⟨fun e' he' => ?_, fun he' => ?_⟩⟩, r2⟩
  · by_cases hkk : k = k'
    · subst hkk
      rw [lookE_cons_eq] at he'
      obtain rfl : e = e' := by simpa using he'
      exact ⟨Maps.has_put_same h1.isMap (law3.key (key_of hk)) _, fun z => Maps.atKey_put_same h1.isMap (law3.key (key_of hk)) _ z⟩
    · rw [lookE_cons_ne hkk] at he'
      obtain ⟨a1, a2⟩ := (h2 k').1 e' he'
      exact ⟨by rw [Maps.has_put_other (key_ne (Ne.symm hkk))]; exact a1, fun z => by rw [Maps.atKey_put_other (key_ne (Ne.symm hkk))]; exact a2 z⟩
  · by_cases hkk : k = k'
    · subst hkk
      rw [lookE_cons_eq] at he'
      cases he'
    · rw [lookE_cons_ne hkk] at he'
      rw [Maps.has_put_other (key_ne (Ne.symm hkk))]
      exact (h2 k').2 he'

/-- The map 'in' holds true at the nodes of comp. -/
def IMap (w : World) (b n : Nat) (comp : List Int) : Prop :=
  ∃ D : DataW Unit, w.ownsMap Try.prog 3 (plainElem Try.prog 4) b n D ∧ ∀ k, D.atKey (.int .i64 k) (.lit (.bool false)) = .lit (.bool (decide (k ∈ comp)))

theorem IMap.kept {w w' : World} {b n : Nat} {comp : List Int} (h : IMap w b n comp) {row : Option Nat} (hg : w.grownBy w' row) (hne : some b ≠ row) : IMap w' b n comp := by
  obtain ⟨D, h1, h2⟩ := h
  exact ⟨D, h1.kept hg hne, h2⟩
theorem IMap.alloc {w : World} {b n : Nat} {comp : List Int} (h : IMap w b n comp) (o : Obj) : IMap (w.alloc o) b n comp := h.kept (World.grownBy_alloc w o none) (by simp)
theorem IMap.lt {w : World} {b n : Nat} {comp : List Int} (h : IMap w b n comp) : b < w.heap.size := by
  obtain ⟨D, h1, h2⟩ := h
  exact h1.lt
theorem IMap.made (w : World) : IMap (w.alloc (.map #[] 0)) w.heap.size 0 [] :=
  ⟨.map [], World.ownsMap_made _ _ _ _, fun k => rfl⟩

theorem plainBool_inv {v : Value} {x : Bool} {ps : List MemPlace} (h : plainElem (H := Unit) Try.prog 4 v = some (.lit (.bool x), ps)) : v = .bool x := by
  unfold plainElem at h
  rw [Try.underlying4] at h
  cases v <;> simp at h
  rw [h.1]

theorem IMap.look {w : World} {b n : Nat} {comp : List Int} (h : IMap w b n comp) {k : Int} (hk : I64 k) :
    (Instr.lookup 67 (.map (some b)) (.int .i64 k) false).run Try.prog w = .ok (.bool (decide (k ∈ comp))) w := by
  obtain ⟨D, h1, h2⟩ := h
  obtain ⟨v, ps, hrun, hv⟩ := h1.lookup law3 Try.underlying67 (zero4 w) (plainElem_bool Try.underlying4 false) (key_of hk)
  rw [hrun]
  rw [h2] at hv
  rw [plainBool_inv hv]

theorem IMap.upd {w : World} {b n : Nat} {comp : List Int} (h : IMap w b n comp) (hn : n < maxLen) {k : Int} (hk : I64 k) :
    ∃ w', (Instr.mapUpdate 67 (.map (some b)) (.int .i64 k) (.bool true)).run Try.prog w = .ok () w' ∧ IMap w' b (n + 1) (comp ++ [k]) ∧ w.grownBy w' (some b) := by
  obtain ⟨D, h1, h2⟩ := h
  obtain ⟨w', hrun, r1, r2⟩ := h1.update law3 Try.underlying67 hn (key_of hk) (plainElem_bool Try.underlying4 true)
  refine ⟨w', hrun, ⟨_, r1, fun k' => ?_⟩, r2⟩
  by_cases hkk : k = k'
  · subst hkk
    rw [Maps.atKey_put_same h1.isMap (law3.key (key_of hk))]
    simp
  · rw [Maps.atKey_put_other (key_ne (Ne.symm hkk)), h2]
    simp [Ne.symm hkk]

/-! ### At the operation -/
section
variable (w : World) {ops : Array Oper} {rest : List Oper} {o : Oper} {a : Act} {Q : Exit → Act → World → Prop}

theorem wp_iupd (hg : o.guard = none) (m x y : Operand) (hop : o.op = Op.mapUpdate 67 m x y) (b n : Nat) (comp : List Int) (hm : a.eval m = .map (some b)) (h : IMap w b n comp) (hn : n < maxLen) (k : Int) (hx : a.eval x = .int .i64 k) (hk : I64 k) (hy : a.eval y = .bool true)
    (hK : ∀ w', IMap w' b (n + 1) (comp ++ [k]) → w.grownBy w' (some b) → wpList Try.prog ops Q rest (a.put o.dst undef) w') : wpList Try.prog ops Q (o :: rest) a w := by
  refine wpList_plain hg fun K' hK' => ?_
  obtain ⟨w', hrun, r1, r2⟩ := h.upd hn hk
  unfold Oper.wp
  simp [execOp, hop, hm, hx, hy, hrun, Result.andThen]
  exact hK' _ _ (hK w' r1 r2)

theorem wp_eupd (hg : o.guard = none) (m x y : Operand) (hop : o.op = Op.mapUpdate 68 m x y) (b : Nat) (R : List (Int × Ed)) (hm : a.eval m = .map (some b)) (h : EMap w b R) (hn : R.length < maxLen) (k : Int) (hx : a.eval x = .int .i64 k) (hk : I64 k) (e : Ed) (hy : a.eval y = .agg #[.int .i64 e.1, .int .i64 e.2.1, .int .i64 e.2.2])
    (hK : ∀ w', EMap w' b ((k, e) :: R) → w.grownBy w' (some b) → wpList Try.prog ops Q rest (a.put o.dst undef) w') : wpList Try.prog ops Q (o :: rest) a w := by
  refine wpList_plain hg fun K' hK' => ?_
  obtain ⟨w', hrun, r1, r2⟩ := h.upd hn hk e
  unfold edv at hrun
  unfold Oper.wp
  simp [execOp, hop, hm, hx, hy, hrun, Result.andThen]
  exact hK' _ _ (hK w' r1 r2)

theorem wp_eins (hg : o.guard = none) (m x y : Operand) (hop : o.op = Op.insert 68 m x y) (b : Nat) (R : List (Int × Ed)) (hm : a.eval m = .map (some b)) (h : EMap w b R) (hn : R.length < maxLen) (k : Int) (hx : a.eval x = .int .i64 k) (hk : I64 k) (e : Ed) (hy : a.eval y = .agg #[.int .i64 e.1, .int .i64 e.2.1, .int .i64 e.2.2])
    (hK : ∀ w', EMap w' b ((k, e) :: R) → w.grownBy w' (some b) → wpList Try.prog ops Q rest (a.put o.dst undef) w') : wpList Try.prog ops Q (o :: rest) a w := by
  refine wpList_plain hg fun K' hK' => ?_
  obtain ⟨w', hrun, r1, r2⟩ := h.upd hn hk e
  unfold edv at hrun
  unfold Oper.wp
  simp [execOp, hop, hm, hx, hy, hrun, Result.andThen]
  exact hK' _ _ (hK w' r1 r2)
end

theorem run_makeMap67 (w : World) (n : Int) : (Instr.makeMap 67 (some (.int .i64 n))).run Try.prog w = .ok (.map (some w.heap.size)) (w.alloc (.map #[] 0)) := by kernel_rfl
end Go.Proofs.Qxb6603412a
