/-
  The size tests, the clone of a slice of bools, the chain of wraps and Underlying.
-/
import Derived.Test.Qxb6604345aRows
import Derived.WalkKit
import Derived.WalkSpells
import Derived.WalkLawsBesides
import Derived.Deep.QuietTactic
import Derived.BigQuiet
import Derived.Deep.LoopGhost
namespace Go.Proofs.Qxb6604345a
open Go.RowKit
set_option linter.unusedVariables false

theorem as36_36 (v : Value) (w : World) : (Instr.typeAssert (.iface 36 v) 44 36 true).run Try.prog w = .ok (.tuple #[v, .bool true]) w := by kernel_rfl
theorem as36_50 (v : Value) (w : World) : (Instr.typeAssert (.iface 36 v) 44 50 true).run Try.prog w = .ok (.tuple #[.pointer none, .bool false]) w := by kernel_rfl
theorem as36_56 (v : Value) (w : World) : (Instr.typeAssert (.iface 36 v) 44 56 true).run Try.prog w = .ok (.tuple #[.pointer none, .bool false]) w := by kernel_rfl
theorem as36_58 (v : Value) (w : World) : (Instr.typeAssert (.iface 36 v) 44 58 true).run Try.prog w = .ok (.tuple #[.pointer none, .bool false]) w := by kernel_rfl
theorem as50_36 (v : Value) (w : World) : (Instr.typeAssert (.iface 50 v) 44 36 true).run Try.prog w = .ok (.tuple #[.pointer none, .bool false]) w := by kernel_rfl
theorem as50_50 (v : Value) (w : World) : (Instr.typeAssert (.iface 50 v) 44 50 true).run Try.prog w = .ok (.tuple #[v, .bool true]) w := by kernel_rfl
theorem as50_56 (v : Value) (w : World) : (Instr.typeAssert (.iface 50 v) 44 56 true).run Try.prog w = .ok (.tuple #[.pointer none, .bool false]) w := by kernel_rfl
theorem as50_58 (v : Value) (w : World) : (Instr.typeAssert (.iface 50 v) 44 58 true).run Try.prog w = .ok (.tuple #[.pointer none, .bool false]) w := by kernel_rfl
theorem as56_36 (v : Value) (w : World) : (Instr.typeAssert (.iface 56 v) 44 36 true).run Try.prog w = .ok (.tuple #[.pointer none, .bool false]) w := by kernel_rfl
theorem as56_50 (v : Value) (w : World) : (Instr.typeAssert (.iface 56 v) 44 50 true).run Try.prog w = .ok (.tuple #[.pointer none, .bool false]) w := by kernel_rfl
theorem as56_56 (v : Value) (w : World) : (Instr.typeAssert (.iface 56 v) 44 56 true).run Try.prog w = .ok (.tuple #[v, .bool true]) w := by kernel_rfl
theorem as56_58 (v : Value) (w : World) : (Instr.typeAssert (.iface 56 v) 44 58 true).run Try.prog w = .ok (.tuple #[.pointer none, .bool false]) w := by kernel_rfl
theorem as58_36 (v : Value) (w : World) : (Instr.typeAssert (.iface 58 v) 44 36 true).run Try.prog w = .ok (.tuple #[.pointer none, .bool false]) w := by kernel_rfl
theorem as58_50 (v : Value) (w : World) : (Instr.typeAssert (.iface 58 v) 44 50 true).run Try.prog w = .ok (.tuple #[.pointer none, .bool false]) w := by kernel_rfl
theorem as58_56 (v : Value) (w : World) : (Instr.typeAssert (.iface 58 v) 44 56 true).run Try.prog w = .ok (.tuple #[.pointer none, .bool false]) w := by kernel_rfl
theorem as58_58 (v : Value) (w : World) : (Instr.typeAssert (.iface 58 v) 44 58 true).run Try.prog w = .ok (.tuple #[v, .bool true]) w := by kernel_rfl
attribute [local go_sem] as36_36 as36_50 as36_56 as36_58 as50_36 as50_50 as50_56 as50_58 as56_36 as56_50 as56_56 as56_58 as58_36 as58_50 as58_56 as58_58

theorem bytes14 (a : Option Addr) (n c : Nat) (s : ByteArray) (z : Int) (w : World) (hs : s.size ≤ maxLen) (hn : n ≤ maxLen) :
    Calls Try.prog 14 #[.slice a n c, .string s, .int .i64 z] w fun e w' => e = .returned (.bool (decide (n + s.size ≤ 1048576))) ∧ w' = w := by
  unfold maxLen at hs hn
  by_cases h1 : n ≤ 1048576
  · by_cases h2 : s.size ≤ 1048576
    · by_cases h3 : n + s.size ≤ 1048576
      · rw [decide_eq_true h3]
        go_enter Try.func14, Try.ntmps14
        go_wp2
        go_ret
        exact ⟨rfl, rfl⟩
      · rw [decide_eq_false h3]
        go_enter Try.func14, Try.ntmps14
        go_wp2
        go_ret
        exact ⟨rfl, rfl⟩
    · rw [decide_eq_false (by omega)]
      go_enter Try.func14, Try.ntmps14
      go_wp2
      go_ret
      exact ⟨rfl, rfl⟩
  · rw [decide_eq_false (by omega)]
    go_enter Try.func14, Try.ntmps14
    go_wp2
    go_ret
    exact ⟨rfl, rfl⟩

theorem Try.info4 : (Try.prog.info? 4).map (fun i => (i.zero, i.size, i.bytes)) = some (some (.bool false), 1, 1) := by kernel_rfl

theorem clone15_nil (w : World) :
    Calls Try.prog 15 #[.slice none 0 0] w fun e w' => e = .returned (.slice none 0 0) ∧ w' = w := by
  have hnil := fun wx => Lib.run_eql_slice_nil (P := Try.prog) (w := wx) 28 4 none 0 0 0 0 Try.underlying28
  go_enter Try.func15, Try.ntmps15
  go_wp2
  go_ret
  exact ⟨rfl, rfl⟩

theorem take_set_next (zs : List Bool) (n k : Nat) (hk : k < n) (hl : n ≤ zs.length) :
    ((zs.take k).map Value.bool ++ List.replicate (n - k) (Value.bool false)).set k (.bool (zs.getD k false)) = (zs.take (k + 1)).map Value.bool ++ List.replicate (n - (k + 1)) (Value.bool false) := by
  have h1 : ((zs.take k).map Value.bool).length = k := by simp; omega
  rw [List.set_append_right _ _ (by omega), h1, Nat.sub_self, show n - k = (n - (k + 1)) + 1 from by omega, List.replicate_succ, List.set_cons_zero]
  have h2 : zs.take (k + 1) = zs.take k ++ [zs.getD k false] := by
    rw [List.take_succ_eq_append_getElem (by omega)]
    simp [List.getD_eq_getElem?_getD, List.getElem?_eq_getElem (show k < zs.length by omega)]
  rw [h2, List.map_append, List.append_assoc]
  rfl

set_option maxHeartbeats 400000 in
theorem clone15_some (b off n c : Nat) (zs : List Bool) (w : World) (hn : n ≤ 1048576) (hb : b < w.heap.size) (hl : n ≤ zs.length)
    (hc : ∀ i, i < n → w.cell? ⟨b, off + i, none⟩ = some (.bool (zs.getD i false))) :
    Calls Try.prog 15 #[.slice (some ⟨b, off, none⟩) n c] w fun e w' => e = .returned (.slice (some ⟨w.heap.size, 0, none⟩) n n) ∧
      w'.ownsRow w.heap.size 4 1 (.slice (some ⟨w.heap.size, 0, none⟩) n n) n ((zs.take n).map Value.bool) ∧ Below w.heap.size w w' := by
  have hnil := fun wx => Lib.run_eql_slice_nil (P := Try.prog) (w := wx) 28 4 (some ⟨b, off, none⟩) n c 0 0 Try.underlying28
  obtain ⟨i0, hi, hz0, hz1, hz2⟩ := info_parts Try.info4
  go_enter Try.func15, Try.ntmps15
  go_wp2_with (at_make; refine wpList_make_full _ rfl _ _ 28 rfl w.heap.size 4 i0 (.bool false) 1 Try.underlying28 hi hz0 hz1 .i64 .i64 _ _ n rfl rfl rfl rfl (by rw [hz2]; omega) (by unfold maxLen; omega) (Nat.le_refl _) ?_; intro w1 hown hgrow)
  have hb1 : Below w.heap.size w w1 := (Below.refl _ _).grown hgrow (Nat.le_refl _) (by intro k hk; cases hk)
  have hown1 : w1.ownsRow w.heap.size 4 1 (.slice (some ⟨w.heap.size, 0, none⟩) n n) n ((zs.take 0).map Value.bool ++ List.replicate (n - 0) (Value.bool false)) := by
    have h := hown
    rw [Nat.mul_one, show (Value.bool false).cells = #[Value.bool false] from rfl, toList_madeCells_one] at h
    simpa using h
  clear hown hgrow hnil
  go_loopw [4] (fun i wr => ∃ k : Nat, k ≤ n ∧ i = .int .i64 k ∧ wr.ownsRow w.heap.size 4 1 (.slice (some ⟨w.heap.size, 0, none⟩) n n) n ((zs.take k).map Value.bool ++ List.replicate (n - k) (Value.bool false)) ∧ Below w.heap.size w wr)
    (fun i _ => n - (intOf i).toNat)
  case atStart => exact ⟨0, Nat.zero_le _, rfl, hown1, hb1⟩
  case round =>
    obtain ⟨k, hk, rfl, hown, hbr⟩ := hrel
    clear hown1 hb1
    by_cases hlt : k < n
    · have hcx : wr.cell? ⟨b, off + k, none⟩ = some (.bool (zs.getD k false)) := (hbr.cell (by exact hb)).trans (hc k hlt)
      have hfz := hown.frozenAt k
      obtain ⟨u, hu⟩ : ∃ u, wr.cell? ⟨w.heap.size, k, none⟩ = some u := by
        rw [hown.cellAt k (by omega)]
        exact ⟨_, List.getElem?_eq_getElem (by simp; omega)⟩
      have hst := (hown.stored k (.bool (zs.getD k false))).1
      rw [take_set_next zs n k hlt hl] at hst
      go_wp2
      go_roundw
      case rel => exact ⟨k + 1, by omega, by go_num, by simpa using hst, hbr.setCell (by simp) _⟩
      case measure => simp [intOf]; omega
    · have hkn : k = n := by omega
      subst hkn
      go_wp2
      go_ret
      refine ⟨rfl, ?_, hbr⟩
      simpa using hown

/-! ### A chain of typedefs (true) and qualifiers (false) in memory -/
def Chain (w : World) (base : Value) : List Bool → Value → Prop
  | [], v => v = base
  | true :: r, v => ∃ g u, v = .iface 56 (.pointer (some ⟨g, 0, none⟩)) ∧ w.cell? ⟨g, 2, none⟩ = some u ∧ Chain w base r u
  | false :: r, v => ∃ g u, v = .iface 58 (.pointer (some ⟨g, 0, none⟩)) ∧ w.cell? ⟨g, 3, none⟩ = some u ∧ Chain w base r u

theorem Chain.kept {w w' : World} {base : Value} (hk : ∀ a u, w.cell? a = some u → w'.cell? a = some u) : ∀ (l : List Bool) (v : Value), Chain w base l v → Chain w' base l v
  | [], _, h => h
  | true :: r, _, ⟨g, u, h1, h2, h3⟩ => ⟨g, u, h1, hk _ _ h2, Chain.kept hk r u h3⟩
  | false :: r, _, ⟨g, u, h1, h2, h3⟩ => ⟨g, u, h1, hk _ _ h2, Chain.kept hk r u h3⟩

theorem cell_alloc {w : World} (o : Obj) (a : Addr) (u : Value) (h : w.cell? a = some u) : (w.alloc o).cell? a = some u :=
  (((Below.refl w.heap.size w).alloc (Nat.le_refl _) o).cell (World.block_lt_of_cell? w a h)).trans h

theorem chain_true {w : World} {base u : Value} {r : List Bool} (h : Chain w base r u) (o : Obj) (ho : (w.alloc o).cell? ⟨w.heap.size, 2, none⟩ = some u) :
    Chain (w.alloc o) base (true :: r) (.iface 56 (.pointer (some ⟨w.heap.size, 0, none⟩))) := ⟨_, u, rfl, ho, Chain.kept (cell_alloc o) r u h⟩
theorem chain_false {w : World} {base u : Value} {r : List Bool} (h : Chain w base r u) (o : Obj) (ho : (w.alloc o).cell? ⟨w.heap.size, 3, none⟩ = some u) :
    Chain (w.alloc o) base (false :: r) (.iface 58 (.pointer (some ⟨w.heap.size, 0, none⟩))) := ⟨_, u, rfl, ho, Chain.kept (cell_alloc o) r u h⟩

set_option maxHeartbeats 400000 in
theorem wrap22 (ty : TypeId) (x : Value) (b off n c : Nat) (bs : List Bool) (w : World) (hn : n ≤ 1048576) (hl : bs.length = n) (hb : b < w.heap.size)
    (hc : ∀ i, i < n → w.cell? ⟨b, off + i, none⟩ = some (.bool (bs.getD i false))) :
    Calls Try.prog 22 #[.iface ty x, .slice (some ⟨b, off, none⟩) n c] w fun e w' => ∃ v, e = .returned v ∧ Chain w' (.iface ty x) bs v ∧ Below w.heap.size w w' := by
  have HC := show Hid _ from hc
  have HL := show Hid _ from hl
  clear hc hl
  go_enter Try.func22, Try.ntmps22
  go_wp2
  go_loopw [0, 5] (fun v i wr => ∃ (j : Nat) (q : Int) (ty' : TypeId) (x' : Value), j ≤ n ∧ q = (j : Int) - 1 ∧ i = .int .i64 q ∧ v = .iface ty' x' ∧ Chain wr (.iface ty x) (bs.drop j) v ∧ Below w.heap.size w wr)
    (fun _ i _ => (intOf i + 1).toNat)
  case atStart => exact ⟨n, _, _, _, Nat.le_refl _, rfl, rfl, rfl, by rw [List.drop_of_length_le (by rw [HL.out]; exact Nat.le_refl _)]; exact rfl, Below.refl _ _⟩
  case round =>
    obtain ⟨j, q, ty', x', hj, hq, rfl, rfl, hch, hbr⟩ := hrel
    cases j with
    | zero =>
      obtain rfl : q = -1 := by omega
      clear hq
      go_wp2
      go_ret
      exact ⟨_, rfl, hch, hbr⟩
    | succ m =>
      obtain rfl : q = (m : Int) := by omega
      clear hq
      have hcx : wr.cell? ⟨b, off + m, none⟩ = some (.bool (bs.getD m false)) := (hbr.cell (by exact hb)).trans (HC.out m (by omega))
      have hd : Hid (bs.drop m = bs.getD m false :: bs.drop (m + 1)) := by
        have hm : m < bs.length := by rw [HL.out]; omega
        unfold Hid
        rw [List.drop_eq_getElem_cons hm]
        simp [List.getD_eq_getElem?_getD, List.getElem?_eq_getElem hm]
      generalize bs.getD m false = bit at hcx hd
      cases bit
      · go_wp2
        go_roundw
        case rel => exact ⟨m, _, _, _, by omega, rfl, rfl, rfl, by rw [hd.out]; exact chain_false hch _ (by simp), hbr.alloc (by exact hbr.size) _⟩
        case measure => simp [intOf]
      · go_wp2
        go_roundw
        case rel => exact ⟨m, _, _, _, by omega, rfl, rfl, rfl, by rw [hd.out]; exact chain_true hch _ (by simp), hbr.alloc (by exact hbr.size) _⟩
        case measure => simp [intOf]

/-- Of no wraps at all (a nil slice too): the type itself. -/
theorem wrap22_none (v : Value) (a : Option Addr) (c : Nat) (w : World) :
    Calls Try.prog 22 #[v, .slice a 0 c] w fun e w' => e = .returned v ∧ w' = w := by
  go_enter Try.func22, Try.ntmps22
  go_wp2
  refine wp_loop_rounds 1 ?_
  rw [rounds_succ]
  go_wp2
  go_ret
  exact ⟨rfl, rfl⟩

set_option maxHeartbeats 400000 in
theorem under21 (ty : TypeId) (x : Value) (bs : List Bool) (v : Value) (w : World)
    (h56 : ∀ W, (Instr.typeAssert (.iface ty x) 44 56 true).run Try.prog W = .ok (.tuple #[.pointer none, .bool false]) W)
    (h58 : ∀ W, (Instr.typeAssert (.iface ty x) 44 58 true).run Try.prog W = .ok (.tuple #[.pointer none, .bool false]) W) (hch : Chain w (.iface ty x) bs v) :
    Calls Try.prog 21 #[v] w fun e w' => e = .returned (.iface ty x) ∧ w' = w := by
  go_enter Try.func21, Try.ntmps21
  go_wp2
  go_loopg [0] (bs.length + 1) (fun k v wr => ∃ l : List Bool, k = l.length + 1 ∧ wr = w ∧ Chain w (.iface ty x) l v)
  case atStart => exact ⟨bs, rfl, rfl, hch⟩
  case round =>
    obtain ⟨l, rfl, rfl, hl⟩ := hrel
    match l, hl with
    | [], hl =>
      obtain rfl := hl
      go_wp2
      go_ret
      exact ⟨rfl, rfl⟩
    | true :: r, ⟨g, u, h1, h2, h3⟩ =>
      subst h1
      go_wp2
      go_roundg (r.length + 1)
      case rel => exact ⟨r, rfl, rfl, h3⟩
      case measure => simp
    | false :: r, ⟨g, u, h1, h2, h3⟩ =>
      subst h1
      go_wp2
      go_roundg (r.length + 1)
      case rel => exact ⟨r, rfl, rfl, h3⟩
      case measure => simp
end Go.Proofs.Qxb6604345a
