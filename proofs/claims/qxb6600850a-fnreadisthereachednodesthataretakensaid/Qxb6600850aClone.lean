/- cloneBoolsQB1 (function 10): a fresh copy of a slice of bools. -/
import Derived.Test.Qxb6600850aProg
import Derived.WalkKit
import Derived.WalkSpells
import Derived.Deep.OwnRows
namespace Go.Proofs.Qxb6600850a
open Go.RowKit

theorem Try.info4 : (Try.prog.info? 4).map (fun i => (i.zero, i.size, i.bytes)) = some (some (.bool false), 1, 1) := by kernel_rfl
theorem Try.info3 : (Try.prog.info? 3).map (fun i => (i.zero, i.size, i.bytes)) = some (some (.int .i64 0), 1, 8) := by kernel_rfl

theorem clone_step {w : World} {g n k : Nat} {h : Nat → Bool} (hr : w.rowIs g 4 n (fun j => .bool (if j < k then h j else false))) :
    (w.setCell ⟨g, k, none⟩ (.bool (h k))).rowIs g 4 n (fun j => .bool (if j < k + 1 then h j else false)) :=
  (hr.set k _).congr fun i hi => by
    by_cases e : i = k
    · subst e; simp
    · have : (i < k + 1) = (i < k) := by apply propext; omega
      simp [e, this]

set_option maxHeartbeats 400000 in
theorem clone_any (b off n cap : Nat) (h : Nat → Bool) (w : World) (hn : n ≤ 65536) (hb : b < w.heap.size) (hc : ∀ i, i < n → w.cell? ⟨b, off + i, none⟩ = some (.bool (h i))) :
    Calls Try.prog 10 #[.slice (some ⟨b, off, none⟩) n cap] w fun e w' =>
      ∃ g, e = .returned (.slice (some ⟨g, 0, none⟩) n n) ∧ w.heap.size ≤ g ∧ w'.rowIs g 4 n (fun i => .bool (h i)) ∧ Below w.heap.size w w' := by
  have hmk := run_make_row' (P := Try.prog) 22 4 (.bool false) 1 Try.underlying22 Try.info4 rfl .i64 .i64 n (by omega) (by omega)
  have hnil := Lib.run_eql_slice_nil (P := Try.prog)
  go_enter Try.func10, Try.ntmps10
  go_wp2
  go_loopw [4] (fun i wr => ∃ k : Nat, k ≤ n ∧ i = .int .i64 k ∧ wr.rowIs w.heap.size 4 n (fun j => .bool (if j < k then h j else false)) ∧ Below w.heap.size w wr) (fun i _ => n - (intOf i).toNat)
  case atStart => exact ⟨0, Nat.zero_le _, rfl, (World.rowIs_made w (.bool false) n 4).congr (fun i _ => by simp), (Below.refl _ _).alloc (Nat.le_refl _) _⟩
  case round =>
    obtain ⟨k, hk, rfl, hrow, hbel⟩ := hrel
    by_cases hlt : k < n
    · have hck : wr.cell? ⟨b, off + k, none⟩ = some (.bool (h k)) := (hbel.cell hb).trans (hc k hlt)
      have hcg := hrow.cell hlt
      have hfg := hrow.frozen k
      have R := clone_step hrow
      have B := hbel.setCell (p := ⟨w.heap.size, k, none⟩) (Nat.le_refl _) (.bool (h k))
      clear hrow hbel
      go_wp2
      go_roundw
      case rel => exact ⟨k + 1, by omega, by go_num, R, B⟩
      case measure => simp [intOf]; omega
    · go_wp2
      go_ret
      obtain rfl : k = n := by omega
      exact ⟨_, rfl, Nat.le_refl _, hrow.congr (fun i hi => by simp [hi]), hbel⟩
end Go.Proofs.Qxb6600850a
