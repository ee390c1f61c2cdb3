/- ZZRead (22). -/
import Derived.Test.Qxb6600850aReadLoop
namespace Go.Proofs.Qxb6600850a
open Go.RowKit
set_option linter.unusedVariables false

set_option maxHeartbeats 400000 in
theorem zzRead_any (d n home lg tg hg : Nat) (lv h : Nat → Bool) (w : World) (A : RArgs w d n home lg tg hg lv h) :
    Calls Try.prog 22 #[.int .i64 d, .int .i64 n, .int .i64 home, .slice (some ⟨lg, 0, none⟩) n n, .slice (some ⟨tg, 0, none⟩) n n, .slice (some ⟨hg, 0, none⟩) n n] w fun e w' =>
      ∃ u, e = .returned u ∧ IntsAt w' w.heap.size u (readL d n (KK d n home h) (TT d n home lv h)) ∧ Below w.heap.size w w' := by
  have hk := read_any d n home lg tg hg lv h (w.alloc (boxP d n lg home tg)) (A.later ((Below.refl _ _).alloc (Nat.le_refl _) _))
  have H := (⟨hk⟩ : PLift _)
  clear hk A
  go_enter Try.func22, Try.ntmps22
  go_wp2_with (go_at_call 29; refine H.down.mono ?_; rintro e w' ⟨u, rfl, hI, hb⟩)
  go_ret
  exact ⟨u, rfl, hI.mono (by simp), below_box (by simpa using hb)⟩
end Go.Proofs.Qxb6600850a
