/-
  The package's doors: ZZCycle, ZZEdgeParts.
-/
import Derived.Test.Qxb6603412aCyU
import Derived.BigQuiet
namespace Go.Proofs.Qxb6603412a
open Go.RowKit Go.Maps
set_option linter.unusedVariables false

theorem zzCycle21 (p y : Value) (g : List (List Ed)) (comp : List Int) (start : Int) (w : World) (hn : g.length ≤ 1048576) (hm : comp.length ≤ 1048576) (hlen : ∀ i, i < g.length → (g.getD i []).length ≤ 1048576) (hst : comp.getD 0 0 = start) (hd : Dom g comp start)
    (hp : IsGraph w p g) (hy : IsInts w y comp)
    (K : Nat) (e : Ed) (v : Int) (Rf : List (Int × Ed)) (K' : Nat) (l : List Ed) (hbfs : bfsE g start (fun x => decide (x ∈ comp)) K [(start, (0, 0, 0))] [start] = some (e, v, Rf)) (hback : backE start K' v Rf = some l) (hll : l.length ≤ g.length) :
    Calls Try.prog 21 #[p, y] w fun en w' => ∃ x, en = .returned x ∧ IsEdges w' x (l.reverse ++ [e]) ∧ Below w.heap.size w w' := by
  have hc0 : 0 < comp.length := by
    cases comp with
    | nil => exact absurd hd.mem (by simp)
    | cons a b => simp
  have hg0 : 0 < g.length := by have := hd.rng _ hd.mem; omega
  obtain ⟨pb, x, rfl, hpb, hp1, hx⟩ := hp
  obtain ⟨ob, oo, oc, rfl, hob, hout⟩ := hx.pos hg0
  obtain ⟨cb, co, cc, rfl, hcb, hcomp⟩ := hy.pos hc0
  have H := cyc28 pb ob oo oc cb co cc g comp start w g.length comp.length hpb hp1 hob hout hcb hcomp hn hm hc0 rfl rfl hlen hst (fun c hc => hd.rng c hc) K e v Rf K' l hbfs hback hll
  clear hbfs hback hout hcomp hp1 hlen hx hy
  generalize l.reverse ++ [e] = les at H ⊢
  go_enter Try.func21, Try.ntmps21
  go_wp2_with fail
  refine H.mono ?_
  rintro en w1 ⟨x, rfl, h1, h2⟩
  obtain ⟨ax, cx, rfl, _⟩ := h1.shape
  go_wp2
  go_ret
  exact ⟨_, rfl, h1, h2⟩

theorem parts14 (a b c : Int) (w : World) :
    Calls Try.prog 14 #[.agg #[.int .i64 a, .int .i64 b, .int .i64 c]] w fun en w' => en = .returned (.tuple #[.int .i64 a, .int .i64 b, .int .i64 c]) ∧ Below w.heap.size w w' := by
  go_enter Try.func14, Try.ntmps14
  go_wp2
  go_region
  go_wp2
  go_ret3
  exact ⟨rfl, ((Below.refl _ _).alloc (Nat.le_refl _) _).drew⟩
end Go.Proofs.Qxb6603412a
