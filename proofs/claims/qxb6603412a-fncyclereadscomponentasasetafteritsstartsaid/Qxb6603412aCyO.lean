/-
  The arguments opened: a slice of ints, a slice of slices of edges.
-/
import Derived.Test.Qxb6603412aCyB
import Derived.Deep.Slices
import Derived.Deep.Strs
namespace Go.Proofs.Qxb6603412a
open Go.ChangeShapes Go.WideShapes Go.RowKit Go.Deep
set_option linter.unusedVariables false

theorem bd_of {z : Int} (h : (Lit.int .i64 z).wf = true) : -9223372036854775808 ≤ z ∧ z ≤ 9223372036854775807 := by
  simp [Lit.wf, IntKind.min, IntKind.max, IntKind.signed, IntKind.bits] at h
  omega

section
variable {H : Type} {enc : TypeId × Value → H} {w : World} {base : Nat} {spare : Nat → Bool} {held : Bool}

theorem ints_of {fuel : Nat} {v : Value} {x : DataW H × List MemPlace} (h : DataW.trod enc Try.prog w base spare held fuel 28 [v] = some x) : ∃ zs, IsInts w v zs := by
  rcases open_ints Try.underlying28 Try.underlying3 (by kernel_rfl) h with ⟨hcs, _⟩ | ⟨⟨b, off, spot⟩, len, cap, zs, hcs, _, hl, hm, hz, _, hcell, hwz⟩
  · obtain rfl : v = .slice none 0 0 := by simpa using hcs
    exact ⟨[], (fun z hz => (by simp at hz)), none, 0, rfl, (fun _ => ⟨rfl, rfl⟩), .inl rfl⟩
  · obtain rfl : v = .slice (some ⟨b, off, spot⟩) len cap := by simpa using hcs
    have hlz : len ≤ zs.length := by rw [hz]; split <;> omega
    have hlt : (zs.take len).length = len := by rw [List.length_take]; omega
    refine ⟨zs.take len, fun z hz => bd_of (hwz z (List.mem_of_mem_take hz)), some ⟨b, off, spot⟩, cap, by rw [hlt], (fun h => (by cases h)), ?_⟩
    rw [hlt]
    by_cases h0 : len = 0
    · exact .inl h0
    · right
      have hspot : spot = none := by simpa [Addr.add] using World.cell?_spot (hcell 0 (by omega))
      subst hspot
      have hb : b < w.heap.size := by simpa [Addr.add] using World.block_lt_of_cell? w _ (hcell 0 (by omega))
      refine ⟨b, off, rfl, hb, fun i hi => ?_⟩
      rw [← add_plain, hcell i (by omega)]
      simp [List.getD_eq_getElem?_getD, List.getElem?_take_of_lt hi]

theorem edge_of {fuel : Nat} {cs : List Value} {x : DataW H × List MemPlace} (h : DataW.trod enc Try.prog w base spare held fuel 42 cs = some x) : ∃ e : Ed, cs = [.int .i64 e.1, .int .i64 e.2.1, .int .i64 e.2.2] ∧ EdWf e := by
  obtain ⟨y0, y1, y2, n, rfl, hl, h0, h1, h2⟩ := trod_struct3 Try.underlying42 h
  have hl3 : cs.length = 3 := hl.trans (by kernel_rfl)
  have hc3 : Try.prog.cellsOf 3 = 1 := by kernel_rfl
  match cs, hl3 with
  | [a, b, c], _ =>
    simp only [hc3] at h0 h1 h2
    obtain ⟨p, e0, _, w0⟩ := DataW.trod_int Try.underlying3 h0
    obtain ⟨q, e1, _, w1⟩ := DataW.trod_int Try.underlying3 h1
    obtain ⟨r, e2, _, w2⟩ := DataW.trod_int Try.underlying3 h2
    have f0 : a = .int .i64 p := by simpa using e0
    have f1 : b = .int .i64 q := by simpa using e1
    have f2 : c = .int .i64 r := by simpa using e2
    subst f0 f1 f2
    exact ⟨(p, q, r), rfl, bd_of w0, bd_of w1, bd_of w2⟩

theorem edges_of {fuel : Nat} {v : Value} {x : DataW H × List MemPlace} (h : DataW.trod enc Try.prog w base spare held fuel 22 [v] = some x) : ∃ es, IsEdges w v es := by
  rcases open_slice Try.underlying22 h with ⟨hcs, _⟩ | ⟨⟨b, off, spot⟩, len, cap, m, n, D, Pl, hcs, _, hl, hm, hmm, _, hx⟩
  · obtain rfl : v = .slice none 0 0 := by simpa using hcs
    exact ⟨[], (fun z hz => (by simp at hz)), none, 0, rfl, (fun _ => ⟨rfl, rfl⟩), .inl rfl⟩
  · obtain rfl : v = .slice (some ⟨b, off, spot⟩) len cap := by simpa using hcs
    have hc3 : Try.prog.cellsOf 42 = 3 := by kernel_rfl
    rw [hc3] at hx
    have hlm : len ≤ m := by rw [hmm]; split <;> omega
    obtain ⟨E, hE⟩ := choose_lt (α := Ed) (n := len) (p := fun i e => EdWf e ∧ w.cell? ((⟨b, off, spot⟩ : Addr).add (i * 3)) = some (.int .i64 e.1) ∧ w.cell? ((⟨b, off, spot⟩ : Addr).add (i * 3 + 1)) = some (.int .i64 e.2.1) ∧ w.cell? ((⟨b, off, spot⟩ : Addr).add (i * 3 + 2)) = some (.int .i64 e.2.2)) (fun i hi => by
      obtain ⟨cs', h1, h2⟩ := hx i (by omega)
      obtain ⟨e, rfl, hw⟩ := edge_of h2
      obtain ⟨_, _, hc⟩ := World.cells?_some h1
      have c0 := hc 0 (by omega)
      have c1 := hc 1 (by omega)
      have c2 := hc 2 (by omega)
      rw [add_add] at c0 c1 c2
      exact ⟨e, hw, c0, c1, c2⟩)
    refine ⟨(List.range len).map E, fun e he => ?_, some ⟨b, off, spot⟩, cap, by simp, (fun h => (by cases h)), ?_⟩
    · obtain ⟨i, hi, rfl⟩ := List.mem_map.1 he
      exact (hE i (by simpa using hi)).1
    · rw [List.length_map, List.length_range]
      by_cases h0 : len = 0
      · exact .inl h0
      · right
        have hspot : spot = none := by simpa [Addr.add] using World.cell?_spot (hE 0 (by omega)).2.1
        subst hspot
        have hb : b < w.heap.size := by simpa [Addr.add] using World.block_lt_of_cell? w _ (hE 0 (by omega)).2.1
        refine ⟨b, off, rfl, hb, fun i hi => ?_⟩
        obtain ⟨_, c0, c1, c2⟩ := hE i hi
        rw [add_plain] at c0 c1 c2
        have eg : ((List.range len).map E).getD i (0, 0, 0) = E i := by simp [List.getD_eq_getElem?_getD, List.getElem?_map, List.getElem?_range hi]
        rw [eg]
        exact ⟨c0, by rw [Nat.add_assoc]; exact c1, by rw [Nat.add_assoc]; exact c2⟩

theorem out_of {fuel : Nat} {v : Value} {x : DataW H × List MemPlace} (h : DataW.trod enc Try.prog w base spare held fuel 48 [v] = some x) : ∃ g, IsOut w v g := by
  rcases open_slice1 Try.underlying48 (by kernel_rfl) h with ⟨hcs, _⟩ | ⟨⟨b, off, spot⟩, len, cap, m, n, V, D, Pl, hcs, _, hl, hm, hmm, _, hx⟩
  · obtain rfl : v = .slice none 0 0 := by simpa using hcs
    exact ⟨[], none, 0, rfl, (fun _ => ⟨rfl, rfl⟩), .inl rfl⟩
  · obtain rfl : v = .slice (some ⟨b, off, spot⟩) len cap := by simpa using hcs
    have hlm : len ≤ m := by rw [hmm]; split <;> omega
    obtain ⟨G, hG⟩ := choose_lt (α := List Ed) (n := len) (p := fun i es => IsEdges w (V i) es) (fun i hi => edges_of (hx i (by omega)).2)
    refine ⟨(List.range len).map G, some ⟨b, off, spot⟩, cap, by simp, (fun h => (by cases h)), ?_⟩
    rw [List.length_map, List.length_range]
    by_cases h0 : len = 0
    · exact .inl h0
    · right
      have hspot : spot = none := by simpa [Addr.add] using World.cell?_spot (hx 0 (by omega)).1
      subst hspot
      have hb : b < w.heap.size := by simpa [Addr.add] using World.block_lt_of_cell? w _ (hx 0 (by omega)).1
      refine ⟨b, off, rfl, hb, fun i hi => ⟨V i, ?_, ?_⟩⟩
      · rw [← add_plain]; exact (hx i (by omega)).1
      · have eg : ((List.range len).map G).getD i [] = G i := by simp [List.getD_eq_getElem?_getD, List.getElem?_map, List.getElem?_range hi]
        rw [eg]
        exact hG i hi
end
end Go.Proofs.Qxb6603412a
