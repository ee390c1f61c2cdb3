/- (Tree).children (function 30). -/
import Derived.Test.Qxb6600850aToward
import Derived.Test.Qxb6600850aKidsMath
import Derived.RegionTactic
import Derived.Deep.QuietTactic
import Derived.BigQuiet
namespace Go.Proofs.Qxb6600850a
open Go.RowKit
set_option linter.unusedVariables false


theorem ret_ints2 {k : IntKind} {a b c d : Int} (h : a = c) (h' : b = d) : Ending.returned (.tuple #[.int k a, .int k b]) = .returned (.tuple #[.int k c, .int k d]) := by rw [h, h']

set_option maxHeartbeats 400000 in
/-- A leaf, in a tree of two nodes or more. -/
theorem children_leaf (d n v : Nat) (w : World) (hd : 1 ≤ d) (hd2 : d ≤ 9223372036854775807) (hn : n ≤ 65536) (h2 : 2 ≤ n) (_hv : v ≤ 65536) (hl : n ≤ d * v + 1) :
    Calls Try.prog 30 #[.agg #[.int .i64 d, .int .i64 n], .int .i64 v] w fun e w' => e = .returned (.tuple #[.int .i64 n, .int .i64 n]) ∧ Below w.heap.size w w' := by
  have hq : ((n : Int) - 2) / (d : Int) = (((n - 2) / d : Nat) : Int) := by
    rw [Int.natCast_ediv]; congr 1; omega
  have hlt : (n - 2) / d < v := by
    rw [Nat.div_lt_iff_lt_mul (by omega)]
    rw [Nat.mul_comm] at hl
    omega
  obtain ⟨q, hqe⟩ : ∃ q, (n - 2) / d = q := ⟨_, rfl⟩
  rw [hqe] at hq hlt
  clear hqe hl
  go_enter Try.func30, Try.ntmps30
  go_wp2
  go_region
  all_goals go_wp2
  all_goals go_ret2
  all_goals exact ⟨rfl, ((Below.refl _ _).alloc (Nat.le_refl _) _).drew⟩

set_option maxHeartbeats 400000 in
/-- A node with children. -/
theorem children_some (d n v s : Nat) (w : World) (hd : 1 ≤ d) (hd2 : d ≤ 9223372036854775807) (hn : n ≤ 65536) (h2 : 2 ≤ n) (hv : v ≤ 65536) (hs : d * v = s) (hl : s + 1 < n) :
    Calls Try.prog 30 #[.agg #[.int .i64 d, .int .i64 n], .int .i64 v] w fun e w' => e = .returned (.tuple #[.int .i64 ↑(s + 1), .int .i64 ↑(s + 1 + min d (n - (s + 1)))]) ∧ Below w.heap.size w w' := by
  have hq : ((n : Int) - 2) / (d : Int) = (((n - 2) / d : Nat) : Int) := by
    rw [Int.natCast_ediv]; congr 1; omega
  have hlt : v ≤ (n - 2) / d := by
    rw [Nat.le_div_iff_mul_le (by omega), Nat.mul_comm]
    omega
  have hm : (d : Int) * (v : Int) = (s : Int) := by rw [← hs]; simp
  obtain ⟨q, hqe⟩ : ∃ q, (n - 2) / d = q := ⟨_, rfl⟩
  rw [hqe] at hq hlt
  clear hqe hs
  go_enter Try.func30, Try.ntmps30
  go_wp2
  go_region
  all_goals go_wp2
  all_goals go_ret2
  all_goals exact ⟨ret_ints2 rfl (by omega), ((Below.refl _ _).alloc (Nat.le_refl _) _).drew⟩

set_option maxHeartbeats 400000 in
/-- A tree of one node, of degree 1. -/
theorem children_one (w : World) :
    Calls Try.prog 30 #[.agg #[.int .i64 1, .int .i64 1], .int .i64 0] w fun e w' => e = .returned (.tuple #[.int .i64 1, .int .i64 1]) ∧ Below w.heap.size w w' := by
  go_enter Try.func30, Try.ntmps30
  go_wp2
  go_region
  all_goals go_wp2
  all_goals go_ret2
  all_goals exact ⟨rfl, ((Below.refl _ _).alloc (Nat.le_refl _) _).drew⟩

set_option maxHeartbeats 400000 in
/-- A tree of one node, of a greater degree. -/
theorem children_one' (d : Nat) (w : World) (hd : 2 ≤ d) (hd2 : d ≤ 9223372036854775807) :
    Calls Try.prog 30 #[.agg #[.int .i64 d, .int .i64 1], .int .i64 0] w fun e w' => e = .returned (.tuple #[.int .i64 1, .int .i64 1]) ∧ Below w.heap.size w w' := by
  have hq : Int.tdiv (-1) (d : Int) = 0 := by
    rw [Int.neg_tdiv, Int.tdiv_eq_zero_of_lt (by omega) (by omega)]; rfl
  go_enter Try.func30, Try.ntmps30
  go_wp2
  go_region
  all_goals go_wp2
  all_goals go_ret2
  all_goals exact ⟨ret_ints2 rfl (by omega), ((Below.refl _ _).alloc (Nat.le_refl _) _).drew⟩

/-- What 'children' answers at v: 'F' and 'F + C'. -/
def ChildrenSay (d n v F C : Nat) : Prop :=
  ∀ w : World, Calls Try.prog 30 #[.agg #[.int .i64 d, .int .i64 n], .int .i64 v] w fun e w' => e = .returned (.tuple #[.int .i64 F, .int .i64 ↑(F + C)]) ∧ Below w.heap.size w w'

/-- EVERY NODE: C the number of children, F the first where there is one. -/
theorem children_any (d n v : Nat) (hd : 1 ≤ d) (hd2 : d ≤ 9223372036854775807) (hn : n ≤ 65536) (hv : v < n) :
    ∃ F : Nat, (0 < cnt d n v → F = d * v + 1) ∧ F + cnt d n v ≤ n ∧ ChildrenSay d n v F (cnt d n v) := by
  by_cases h2 : 2 ≤ n
  · by_cases hl : n ≤ d * v + 1
    · have hc : cnt d n v = 0 := by unfold cnt; omega
      refine ⟨n, by omega, by omega, fun w => ?_⟩
      rw [hc]
      exact children_leaf d n v w hd hd2 hn h2 (by omega) hl
    · refine ⟨d * v + 1, fun _ => rfl, by unfold cnt; omega, fun w => ?_⟩
      exact children_some d n v (d * v) w hd hd2 hn h2 (by omega) rfl (by omega)
  · obtain rfl : n = 1 := by omega
    obtain rfl : v = 0 := by omega
    have hc : cnt d 1 0 = 0 := by unfold cnt; omega
    refine ⟨1, by omega, by omega, fun w => ?_⟩
    rw [hc]
    by_cases hd1 : d = 1
    · subst hd1; exact children_one w
    · exact children_one' d w (by omega) hd2
end Go.Proofs.Qxb6600850a
