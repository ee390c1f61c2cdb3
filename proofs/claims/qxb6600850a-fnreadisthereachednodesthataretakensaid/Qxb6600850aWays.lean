/- wayChildrenQB1 (function 20). -/
import Derived.Test.Qxb6600850aToward
namespace Go.Proofs.Qxb6600850a
open Go.RowKit
set_option linter.unusedVariables false

set_option maxHeartbeats 400000 in
theorem ways_any (d n home : Nat) (w : World) (hd : 1 ≤ d) (hd2 : d ≤ 9223372036854775807) (hh : home < n) (hn : n ≤ 65536) :
    Calls Try.prog 20 #[.int .i64 d, .int .i64 n, .int .i64 home] w fun e w' =>
      ∃ g, e = .returned (.slice (some ⟨g, 0, none⟩) n n) ∧ w.heap.size ≤ g ∧ w'.rowIs g 3 n (fun i => .int .i64 (twd d home i)) ∧ Below w.heap.size w w' := by
  have hmk := run_make_row' (P := Try.prog) 27 3 (.int .i64 0) 8 Try.underlying27 Try.info3 rfl .i64 .i64 n (by omega) (by omega)
  go_enter Try.func20, Try.ntmps20
  go_wp2
  go_loopw [8] (fun i wr => ∃ k : Nat, k ≤ n ∧ i = .int .i64 k ∧ wr.rowIs w.heap.size 3 n (fun j => .int .i64 (if j < k then -1 else 0)) ∧ Below w.heap.size w wr) (fun i _ => n - (intOf i).toNat)
  case atStart => exact ⟨0, Nat.zero_le _, rfl, tw_made _ n _ rfl, (Below.refl _ _).alloc (Nat.le_refl _) _⟩
  case round =>
    obtain ⟨k, hk, rfl, hrow, hbel⟩ := hrel
    by_cases hlt : k < n
    · have hcg := hrow.cell hlt
      have hfg := hrow.frozen k
      have R := fill_step hrow
      have B := hbel.setCell (p := ⟨w.heap.size, k, none⟩) (Nat.le_refl _) (.int .i64 (-1))
      clear hrow hbel
      go_wp2
      go_roundw
      case rel => exact ⟨k + 1, by omega, by go_num, R, B⟩
      case measure => simp [intOf]; omega
    · have hrow2 : wr.rowIs w.heap.size 3 n (fun j => .int .i64 (TwAt d home home j)) := hrow.congr fun i hi => by rw [twAt_start, if_pos (by omega)]
      clear hrow
      go_wp2
      go_loopw [9] (fun c wr => ∃ k : Nat, k ≤ home ∧ c = .int .i64 k ∧ wr.rowIs w.heap.size 3 n (fun j => .int .i64 (TwAt d home k j)) ∧ Hid (∀ v, v < k → twd d home v = twd d k v) ∧ Below w.heap.size w wr) (fun c _ => (intOf c).toNat)
      case atStart => exact ⟨home, Nat.le_refl _, rfl, hrow2, fun _ _ => rfl, hbel⟩
      case round =>
        clear hrow2 hbel
        obtain ⟨k, hk, rfl, hrow, hs, hbel⟩ := hrel
        by_cases hlt : 0 < k
        · obtain ⟨p, hpe⟩ : ∃ p, (k - 1) / d = p := ⟨_, rfl⟩
          have hp : p < k := by rw [← hpe]; exact par_lt (by omega)
          have hi : ((k : Int) - 1) / (d : Int) = (p : Int) := by rw [← hpe]; exact par_int (by omega)
          have hcg := hrow.cell (i := p) (by omega)
          have hfg := hrow.frozen p
          have R := tw_store hrow hlt hpe hs.out
          have S : Hid (∀ v, v < p → twd d home v = twd d p v) := (twAt_step hlt hpe hs.out).2
          have B := hbel.setCell (p := ⟨w.heap.size, p, none⟩) (Nat.le_refl _) (.int .i64 k)
          clear hrow hbel hs hpe
          go_wp2
          go_roundw
          case rel => exact ⟨p, by omega, by rw [hi], R, S, B⟩
          case measure => simp [intOf]; omega
        · obtain rfl : k = 0 := by omega
          go_wp2
          go_ret
          exact ⟨_, rfl, Nat.le_refl _, hrow.congr (fun i _ => by simp [TwAt]), hbel⟩
end Go.Proofs.Qxb6600850a
