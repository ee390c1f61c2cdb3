/- kids at every node; ZZKids (15). -/
import Derived.Test.Qxb6600850aKids
namespace Go.Proofs.Qxb6600850a
open Go.RowKit
set_option linter.unusedVariables false

theorem kidsL_leaf {d n home v : Nat} (h : Nat → Bool) (hC : cnt d n v = 0) : kidsL d n home v h = [] := by
  unfold kidsL pick
  rw [hC]
  simp [kord]

theorem kids_any (d n home v : Nat) (la : Option Addr) (ll lc : Nat) (tg hg : Nat) (h : Nat → Bool) (w : World) (hd : 1 ≤ d) (hd2 : d ≤ 9223372036854775807) (hn : n ≤ 65536) (hvn : v < n) (hh : home < n)
    (htg : tg < w.heap.size) (hhg : hg < w.heap.size) (hct : w.cell? ⟨tg, v, none⟩ = some (.int .i64 (twd d home v))) (hch : ∀ i, i < n → w.cell? ⟨hg, i, none⟩ = some (.bool (h i))) :
    Calls Try.prog 28 #[pkr d n (.slice la ll lc) home (.slice (some ⟨tg, 0, none⟩) n n), .int .i64 v, .slice (some ⟨hg, 0, none⟩) n n] w fun e w' =>
      ∃ u, e = .returned u ∧ IsInts w' w.heap.size u (kidsL d n home v h) ∧ Below w.heap.size w w' := by
  by_cases hC : cnt d n v = 0
  · refine (kids_leaf d n home v la ll lc tg _ w hd hd2 hn hvn hC).mono fun e w' ⟨he, hb⟩ => ?_
    exact ⟨_, he, .inl ⟨kidsL_leaf h hC, rfl⟩, hb⟩
  · exact kids_some d n home v la ll lc tg hg h w hd hd2 hn hvn hh _ rfl (by omega) htg hhg hct hch

theorem cell_box {w : World} {o : Obj} {g i : Nat} {v : Value} (hg : g < w.heap.size) (h : w.cell? ⟨g, i, none⟩ = some v) : (w.alloc o).cell? ⟨g, i, none⟩ = some v :=
  (((Below.refl w.heap.size w).alloc (Nat.le_refl _) o).cell (p := ⟨g, i, none⟩) hg).trans h

set_option maxHeartbeats 400000 in
theorem zzKids_any (d n home v : Nat) (tg hg : Nat) (h : Nat → Bool) (w : World) (hd : 1 ≤ d) (hd2 : d ≤ 9223372036854775807) (hn : n ≤ 65536) (hvn : v < n) (hh : home < n)
    (htg : tg < w.heap.size) (hhg : hg < w.heap.size) (hct : w.cell? ⟨tg, v, none⟩ = some (.int .i64 (twd d home v))) (hch : ∀ i, i < n → w.cell? ⟨hg, i, none⟩ = some (.bool (h i))) :
    Calls Try.prog 15 #[.int .i64 d, .int .i64 n, .int .i64 home, .slice (some ⟨tg, 0, none⟩) n n, .int .i64 v, .slice (some ⟨hg, 0, none⟩) n n] w fun e w' =>
      ∃ u, e = .returned u ∧ IsInts w' w.heap.size u (kidsL d n home v h) ∧ Below w.heap.size w w' := by
  have hk := kids_any d n home v none 0 0 tg hg h (w.alloc (.cells #[.int .i64 d, .int .i64 n, .slice none 0 0, .slice none 0 0, .slice none 0 0, .int .i64 home, .slice (some ⟨tg, 0, none⟩) n n] 47)) hd hd2 hn hvn hh (by simp; omega) (by simp; omega) (cell_box htg hct) (fun i hi => cell_box hhg (hch i hi))
  have H := (⟨hk⟩ : PLift _)
  clear hk hct hch
  go_enter Try.func15, Try.ntmps15
  go_wp2_with (go_at_call 28; refine H.down.mono ?_; rintro e w' ⟨u, rfl, hI, hb⟩)
  go_ret
  refine ⟨u, rfl, ?_, below_box (by simpa using hb)⟩
  rcases hI with ⟨h1, h2⟩ | ⟨h1, g, h2, h3, h4⟩
  · exact .inl ⟨h1, h2⟩
  · exact .inr ⟨h1, g, h2, by simp at h3; omega, h4⟩
end Go.Proofs.Qxb6600850a
