/-
  What stands in memory while the law's own search goes.
-/
import Derived.Test.Qxb6603412aCyW
import Derived.Test.Qxb6603412aCyTa
namespace Go.Proofs.Qxb6603412a
open Go.RowKit Go.Maps
set_option linter.unusedVariables false

/-! ### The set as a row of bools -/
def inRow (n : Nat) (c : List Int) : List Bool := (List.range n).map fun (t : Nat) => decide ((t : Int) ∈ c)
theorem inRow_nil (n : Nat) : (inRow n []).map Value.bool = List.replicate n (.bool false) := by
  apply List.ext_getElem?
  intro i
  simp only [inRow, List.map_map, List.getElem?_map, List.getElem?_replicate]
  by_cases h : i < n
  · rw [if_pos h, List.getElem?_range h]; simp
  · rw [if_neg h, List.getElem?_eq_none (by simpa using h)]; simp
theorem inRow_set (n : Nat) (c : List Int) (z : Nat) (hz : z < n) : ((inRow n c).map Value.bool).set z (.bool true) = (inRow n (c ++ [(z : Int)])).map Value.bool := by
  apply List.ext_getElem?
  intro i
  by_cases h : i = z
  · subst h
    rw [List.getElem?_set_self (by simpa [inRow] using hz)]
    simp [inRow, List.getElem?_range hz]
  · rw [List.getElem?_set_ne (Ne.symm h)]
    simp only [inRow, List.map_map, List.getElem?_map]
    by_cases hi : i < n
    · rw [List.getElem?_range hi]
      simp [show ¬ ((i : Int) = (z : Int)) by omega]
    · rw [List.getElem?_eq_none (by simpa using hi)]; simp

theorem Try.info4 : (Try.prog.info? 4).map (fun i => (i.zero, i.size, i.bytes)) = some (some (.bool false), 1, 1) := by kernel_rfl

theorem icell {w : World} {B b n c : Nat} {comp : List Int} (h : w.ownsRow B 4 1 (.slice (some ⟨b, 0, none⟩) n c) n ((inRow n comp).map Value.bool)) (k : Nat) (hk : k < n) : w.cell? ⟨b, k, none⟩ = some (.bool (decide ((k : Int) ∈ comp))) := by
  rw [h.cellAt k (by omega)]
  simp [inRow, List.getElem?_range hk]

theorem icell' {w : World} {B b n c : Nat} {comp : List Int} (h : w.ownsRow B 4 1 (.slice (some ⟨b, 0, none⟩) n c) n ((inRow n comp).map Value.bool)) (k : Nat) (hk : k < n) : ∃ q, w.cell? ⟨b, k, none⟩ = some (.bool q) := ⟨_, icell h k hk⟩

theorem fill_set (n q : Nat) (hq : q < n) : (List.replicate q (-1 : Int) ++ List.replicate (n - q) 0).set q (-1) = List.replicate (q + 1) (-1) ++ List.replicate (n - (q + 1)) 0 := by
  rw [show n - q = (n - (q + 1)) + 1 from by omega, List.replicate_succ, List.set_append_right _ _ (by simp)]
  simp [List.replicate_succ', List.append_assoc]

def OwnF (w : World) (B : Nat) (fa : Option Addr) (fc : Nat) (F : List Int) : Prop := w.ownsRow B 3 1 (.slice fa F.length fc) F.length (F.map (Value.int .i64))

theorem OwnF.cell {w : World} {B : Nat} {fa : Option Addr} {fc : Nat} {F : List Int} (h : OwnF w B fa fc F) (h0 : 0 < F.length) : ∃ b, fa = some ⟨b, 0, none⟩ ∧ B ≤ b ∧ b < w.heap.size ∧ ∀ k, k < F.length → w.cell? ⟨b, k, none⟩ = some (.int .i64 (F.getD k 0)) := by
  have h1 := h
  rcases h.2 with ⟨_, h⟩ | ⟨b, cap, cur, hv, h2, h3, h4, h5, h6, h7⟩
  · omega
  · injection hv with e1 e2 e3
    subst e1; subst e3
    refine ⟨b, rfl, h2, (Array.getElem?_eq_some_iff.1 h3).1, fun k hk => ?_⟩
    rw [World.ownsRow.cellAt h1 k (by omega)]
    simp [List.getD_eq_getElem?_getD, List.getElem?_eq_getElem hk]

theorem OwnF.made (w : World) (z : Int) : OwnF (w.alloc (.cells #[.int .i64 z] 3)) w.heap.size (some ⟨w.heap.size, 0, none⟩) 1 [z] := by
  refine ⟨rfl, .inr ⟨w.heap.size, 1, #[.int .i64 z], rfl, Nat.le_refl _, by show (w.heap.push _)[w.heap.size]? = _; simp, Nat.le_refl _, by unfold maxLen; omega, rfl, rfl⟩⟩

theorem own_below {w w' : World} {B b0 : Nat} {T : TypeId} {s n : Nat} {v : Value} {xs : List Value} (h : w.ownsRow b0 T s v n xs) (hb : Below B w w') (hv : ∀ k, v.ownBlock = some k → k < B) : w'.ownsRow b0 T s v n xs := by
  refine ⟨h.1, ?_⟩
  rcases h.2 with h2 | ⟨g, cap, cur, rfl, h3, h4, h5⟩
  · exact .inl h2
  · exact .inr ⟨g, cap, cur, rfl, h3, (hb.block g (hv g rfl)).trans h4, h5⟩

section
variable (w : World) {ops : Array Oper} {rest : List Oper} {o : Oper} {a : Act} {Q : Exit → Act → World → Prop}

/-- 'next = append(next, z)'. -/
theorem wp_npush (hg : o.guard = none) (s x : Operand) (hop : o.op = Op.call { callee := Callee.builtin Builtin.append, args := #[s, x], argTypes := #[28, 28] }) (B : Nat) (na : Option Addr) (nc : Nat) (N : List Int) (hs : a.eval s = .slice na N.length nc) (h : OwnF w B na nc N) (z : Int)
    (b : Nat) (hx : a.eval x = .slice (some ⟨b, 0, none⟩) 1 1) (hc : w.cell? ⟨b, 0, none⟩ = some (.int .i64 z)) (b1 : N.length ≤ 1048577) (hB : B ≤ w.heap.size)
    (hK : ∀ na' nc' w', OwnF w' B na' nc' (N ++ [z]) → Below B w w' → wpList Try.prog ops Q rest (a.put o.dst (.slice na' (N.length + 1) nc')) w') : wpList Try.prog ops Q (o :: rest) a w := by
  obtain ⟨i0, hi, hz0, hz1, hz2⟩ := info_parts Try.info3
  refine wpList_append_lies (w := w) hg s x 28 hop B 3 i0 (.int .i64 0) 1 8 Try.underlying28 hi hz0 hz1 hz2 rfl (by decide) _ N.length (N.map (Value.int .i64)) hs h ⟨b, 0, none⟩ 1 1 [.int .i64 z] hx rfl ?_ ?_ (by decide) (by unfold maxLen; omega) (by omega) hB _ rfl ?_
  · intro j u hj
    match j, hj with
    | 0, hj => simp at hj; subst hj; exact hc
  · intro u hu
    simp at hu
    subst hu; rfl
  · intro g' c' w' h1 h2 h3 h4
    refine hK _ _ _ (by unfold OwnF; simpa using h1) ((Below.refl _ _).grown h2 hB ?_)
    intro k hk
    exact (World.ownsRow.lt h k hk).1
end

/-- The set and the distances. -/
structure SM (w0 w : World) (n bi bd : Nat) (comp dist : List Int) : Prop where
  ic : w.ownsRow w0.heap.size 4 1 (.slice (some ⟨bi, 0, none⟩) n n) n ((inRow n comp).map Value.bool)
  di : w.ownsRow w0.heap.size 3 1 (.slice (some ⟨bd, 0, none⟩) n n) n (dist.map (Value.int .i64))
  bel : Below w0.heap.size w0 w
  ne : bi ≠ bd

section
variable {w0 w w' : World} {n bi bd : Nat} {comp dist : List Int}

theorem SM.dcell (h : SM w0 w n bi bd comp dist) (k : Nat) (hk : k < n) : w.cell? ⟨bd, k, none⟩ = some (.int .i64 (dAt dist k)) := by
  rw [h.di.cellAt k (by omega)]
  have hl : k < dist.length := by have := h.di.1; simp at this; omega
  simp [dAt, List.getElem?_eq_getElem hl, List.getD_eq_getElem?_getD, show ¬ ((k : Int) < 0) by omega]
theorem SM.ccell (h : SM w0 w n bi bd comp dist) (k : Nat) (hk : k < n) : w.cell? ⟨bi, k, none⟩ = some (.bool (decide ((k : Int) ∈ comp))) := icell h.ic k hk
theorem SM.alloc (h : SM w0 w n bi bd comp dist) (o : Obj) : SM w0 (w.alloc o) n bi bd comp dist := ⟨h.ic.alloc o, h.di.alloc o, h.bel.alloc h.bel.size o, h.ne⟩
theorem SM.below {B : Nat} (h : SM w0 w n bi bd comp dist) (hb : Below B w w') (h1 : bi < B) (h2 : bd < B) (h0 : w0.heap.size ≤ B) : SM w0 w' n bi bd comp dist :=
  ⟨own_below h.ic hb (by intro k hk; cases hk; exact h1), own_below h.di hb (by intro k hk; cases hk; exact h2), h.bel.trans (hb.mono h0), h.ne⟩
theorem SM.store (h : SM w0 w n bi bd comp dist) (k : Nat) (v : Int) : SM w0 (w.setCell ⟨bd, k, none⟩ (.int .i64 v)) n bi bd comp (dist.set k v) := by
  refine ⟨h.ic.kept (h.di.stored k (.int .i64 v)).2 (.inr (by have := h.ne; simp [Value.ownBlock]; omega)), ?_, h.bel.setCell (h.di.lt bd rfl).1 _, h.ne⟩
  have := (h.di.stored k (.int .i64 v)).1
  rwa [← List.map_set] at this
end

/-- .. and the level and the next one. -/
structure LM (w0 w : World) (n bi bd : Nat) (comp dist F : List Int) (fa : Option Addr) (fc : Nat) (N : List Int) (na : Option Addr) (nc Bf Bn : Nat) : Prop where
  sm : SM w0 w n bi bd comp dist
  fo : OwnF w Bf fa fc F
  no : OwnF w Bn na nc N
  b1 : bi < Bf
  b2 : bd < Bf
  b3 : Bf ≤ Bn
  b4 : ∀ k, (Value.slice fa F.length fc).ownBlock = some k → k < Bn
  b5 : Bn ≤ w.heap.size
  b0 : w0.heap.size ≤ Bf

section
variable {w0 w w' : World} {n bi bd : Nat} {comp dist F : List Int} {fa : Option Addr} {fc : Nat} {N : List Int} {na : Option Addr} {nc Bf Bn : Nat}
theorem LM.alloc (h : LM w0 w n bi bd comp dist F fa fc N na nc Bf Bn) (o : Obj) : LM w0 (w.alloc o) n bi bd comp dist F fa fc N na nc Bf Bn :=
  { h with sm := h.sm.alloc o, fo := World.ownsRow.alloc h.fo o, no := World.ownsRow.alloc h.no o, b5 := (by have := h.b5; simp; omega) }
theorem LM.store (h : LM w0 w n bi bd comp dist F fa fc N na nc Bf Bn) (k : Nat) (v : Int) : LM w0 (w.setCell ⟨bd, k, none⟩ (.int .i64 v)) n bi bd comp (dist.set k v) F fa fc N na nc Bf Bn := by
  have hF : ∀ k, (Value.slice fa F.length fc).ownBlock = some k → Bf ≤ k := fun k hk => (World.ownsRow.lt h.fo k hk).1
  have hN : ∀ k, (Value.slice na N.length nc).ownBlock = some k → Bn ≤ k := fun k hk => (World.ownsRow.lt h.no k hk).1
  have h2 := h.b2
  have h3 := h.b3
  refine { h with sm := h.sm.store k v, fo := World.ownsRow.kept h.fo (h.sm.di.stored k (.int .i64 v)).2 (.inr fun e => ?_), no := World.ownsRow.kept h.no (h.sm.di.stored k (.int .i64 v)).2 (.inr fun e => ?_), b5 := (by have := h.b5; simpa using this) }
  · have := hF _ e; omega
  · have := hN _ e; omega
theorem LM.push (h : LM w0 w n bi bd comp dist F fa fc N na nc Bf Bn) {N' : List Int} {na' : Option Addr} {nc' : Nat} (hn : OwnF w' Bn na' nc' N') (hb : Below Bn w w') : LM w0 w' n bi bd comp dist F fa fc N' na' nc' Bf Bn := by
  have h1 := h.b1
  have h2 := h.b2
  have h3 := h.b3
  have h0 := h.b0
  exact { h with sm := h.sm.below hb (by omega) (by omega) (by omega), fo := own_below h.fo hb h.b4, no := hn, b5 := Nat.le_trans h.b5 hb.size }
/-- A level begins. -/
theorem LM.begin (hs : SM w0 w n bi bd comp dist) (hf : OwnF w Bf fa fc F) (h1 : bi < Bf) (h2 : bd < Bf) (h0 : w0.heap.size ≤ Bf) (hw : Bf ≤ w.heap.size) : LM w0 w n bi bd comp dist F fa fc [] none 0 Bf w.heap.size :=
  ⟨hs, hf, World.ownsRow_nil _ _ _ _, h1, h2, hw, fun k hk => (World.ownsRow.lt hf k hk).2, Nat.le_refl _, h0⟩
end
end Go.Proofs.Qxb6603412a
