/- childListsQB1 (function 11). -/
import Derived.Test.Qxb6600850aProg
import Derived.Test.Qxb6600850aListsMath
import Derived.Test.Qxb6600850aClone
namespace Go.Proofs.Qxb6600850a
open Go.RowKit
set_option linter.unusedVariables false

theorem Try.info27 : (Try.prog.info? 27).map (fun i => (i.zero, i.size, i.bytes)) = some (some (.slice none 0 0), 1, 24) := by kernel_rfl

theorem lists_below {w wr w1 : World} {o : Obj} {G p : Nat} {row : Option Nat} {u : Value} (hG : w.heap.size = G) (hb : Below w.heap.size w wr) (hgrow : (wr.alloc o).grownBy w1 row) (hr : ∀ k, row = some k → G + 1 ≤ k) : Below w.heap.size w (w1.setCell ⟨G, p, none⟩ u) :=
  ((hb.alloc hb.size o).grown hgrow (by have := hb.size; simp; omega) (fun k hk => by have := hr k hk; omega)).setCell (by show w.heap.size ≤ G; omega) u

set_option maxHeartbeats 400000 in
theorem lists_any (d n : Nat) (w : World) (hd : 1 ≤ d) (hd2 : d ≤ 9223372036854775807) (h1 : 1 ≤ n) (hn : n ≤ 65536) :
    Calls Try.prog 11 #[.int .i64 d, .int .i64 n] w fun e w' =>
      ∃ G V, e = .returned (.slice (some ⟨G, 0, none⟩) n n) ∧ w.heap.size ≤ G ∧ Lists w' G d n n V ∧ Below w.heap.size w w' := by
  have hmk := run_make_row' (P := Try.prog) 25 27 (.slice none 0 0) 24 Try.underlying25 Try.info27 rfl .i64 .i64 n (by omega) (by omega)
  obtain ⟨i0, hi, hz0, hz1, hz2⟩ := info_parts Try.info3
  go_enter Try.func11, Try.ntmps11
  go_wp2
  go_loopw [6] (fun c wr => ∃ k : Nat, ∃ V : Nat → Value, 1 ≤ k ∧ k ≤ n ∧ c = .int .i64 k ∧ Lists wr w.heap.size d n k V ∧ Below w.heap.size w wr) (fun c _ => n - (intOf c).toNat)
  case atStart => exact ⟨1, _, Nat.le_refl _, h1, rfl, lists_start w d n, (Below.refl _ _).alloc (Nat.le_refl _) _⟩
  case round =>
    obtain ⟨k, V, hk1, hk, rfl, hL, hbel⟩ := hrel
    by_cases hlt : k < n
    · obtain ⟨p, hpe⟩ : ∃ p, (k - 1) / d = p := ⟨_, rfl⟩
      have hp : p < k := by rw [← hpe]; exact par_lt (by omega)
      have hpI : ((k : Int) - 1) / (d : Int) = (p : Int) := by rw [← hpe]; exact par_int (by omega)
      have hpn : p < n := by omega
      have hc := hL.top.cell (i := p) (by omega)
      have hf := hL.top.frozen p
      have hown := hL.own p (by omega)
      have hlen := chUp_length d k p
      have hGr := hL.top.lt
      go_wp2_with (at_builtin; refine wpList_append_lies _ rfl _ _ 27 rfl (w.heap.size + 1) 3 i0 (.int .i64 0) 1 8 Try.underlying27 hi hz0 hz1 hz2 rfl (by omega) (V p) (chUp d k p).length _ rfl (hown.alloc _) ⟨wr.heap.size, 0, none⟩ 1 1 [.int .i64 (k : Int)] rfl rfl (cell_one_new _ _ _) (by intro u hu; simp at hu; subst hu; rfl) (by omega) (by unfold maxLen; omega) (by omega) (by simp; omega) (wr.heap.size + 1) (by simp) ?_; intro g cap w1 hown1 hgrow hat hlt1; have T := lists_top hL hpn hgrow; have hc1 := T.cell hpn; have hf1 := T.frozen p; have R := lists_step hL hd hk1 hpe hpn hgrow hown1 hat; have B := lists_below (p := p) (u := .slice (some ⟨g, 0, none⟩) ((chUp d k p).length + 1) cap) rfl hbel hgrow (fun j hj => ((hL.own p hpn).lt j hj).1); clear T hgrow hat hown1)
      go_roundw
      case rel => exact ⟨k + 1, _, by omega, by omega, by go_num, R, B⟩
      case measure => simp [intOf]; omega
    · obtain rfl : k = n := by omega
      go_wp2
      go_ret
      exact ⟨_, V, rfl, Nat.le_refl _, hL, hbel⟩
end Go.Proofs.Qxb6600850a
