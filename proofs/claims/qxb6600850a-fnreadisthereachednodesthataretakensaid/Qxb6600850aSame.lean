/- sameIntsQB1 (function 16) at two equal lists; modelKidsQB1 at a node of the tree. -/
import Derived.Test.Qxb6600850aModel
import Derived.Deep.QuietTactic
import Derived.BigQuiet
namespace Go.Proofs.Qxb6600850a
open Go.RowKit
set_option linter.unusedVariables false

set_option maxHeartbeats 400000 in
theorem same_nil (w : World) : Calls Try.prog 16 #[.slice none 0 0, .slice none 0 0] w fun e w' => e = .returned (.bool true) ∧ Below w.heap.size w w' := by
  go_enter Try.func16, Try.ntmps16
  go_wp2
  refine wp_loop_rounds 1 ?_
  rw [rounds_succ]
  go_wp2
  go_ret
  exact ⟨rfl, Below.refl _ _⟩

theorem below_drewN {B : Nat} {w w' : World} (h : Below B w w') (n : Nat) : Below B w (w'.drewN n) := by
  have : (w'.drewN n).heap = w'.heap ∧ (w'.drewN n).os = w'.os ∧ (w'.drewN n).tape = w'.tape ∧ (w'.drewN n).output = w'.output := by
    simp [World.drewN]
  obtain ⟨h1, h2, h3, h4⟩ := this
  exact ⟨h2.trans h.os, h3.trans h.tape, h4.trans h.output, by rw [h1]; exact h.size, fun k hk => by rw [h1]; exact h.block k hk⟩

set_option maxHeartbeats 400000 in
theorem same_some (g1 g2 n c1 c2 : Nat) (f : Nat → Int) (w : World) (hn : n ≤ 65536) (h1 : ∀ i, i < n → w.cell? ⟨g1, i, none⟩ = some (.int .i64 (f i))) (h2 : ∀ i, i < n → w.cell? ⟨g2, i, none⟩ = some (.int .i64 (f i))) :
    Calls Try.prog 16 #[.slice (some ⟨g1, 0, none⟩) n c1, .slice (some ⟨g2, 0, none⟩) n c2] w fun e w' => e = .returned (.bool true) ∧ Below w.heap.size w w' := by
  have hne : ((n : Int) != (n : Int)) = false := by simp
  go_enter Try.func16, Try.ntmps16
  go_wp2
  go_loopw [5] (fun i wr => ∃ k : Nat, k ≤ n ∧ i = .int .i64 k ∧ ∃ q, wr = w.drewN q) (fun i _ => n - (intOf i).toNat)
  case atStart => exact ⟨0, Nat.zero_le _, rfl, 0, rfl⟩
  case round =>
    obtain ⟨k, hk, rfl, q, rfl⟩ := hrel
    by_cases hlt : k < n
    · have e1 := h1 k hlt
      have e2 := h2 k hlt
      have hlI : (k : Int) < (n : Int) := by omega
      have hff : (f k != f k) = false := by simp
      clear h1 h2
      go_wp2
      go_quiet (fail)
      go_wp2
      go_roundw
      case rel => exact ⟨k + 1, by omega, by go_num, _, rfl⟩
      case measure => simp [intOf]; omega
    · go_wp2
      go_ret
      exact ⟨rfl, below_drewN (Below.refl _ _) _⟩

/-- Two readable slices over one list. -/
theorem same_any (u1 u2 : Value) (B1 B2 : Nat) (L : List Nat) (w : World) (hn : L.length ≤ 65536) (h1 : IntsAt w B1 u1 L) (h2 : IntsAt w B2 u2 L) :
    Calls Try.prog 16 #[u1, u2] w fun e w' => e = .returned (.bool true) ∧ Below w.heap.size w w' := by
  rcases h1 with ⟨e1, rfl⟩ | ⟨e1, g1, c1, rfl, _, _, h1⟩ <;> rcases h2 with ⟨e2, rfl⟩ | ⟨e2, g2, c2, rfl, _, _, h2⟩
  · exact same_nil w
  · exact absurd e1 e2
  · exact absurd e2 e1
  · exact same_some g1 g2 L.length c1 c2 (fun i => (L.getD i 0 : Nat)) w hn h1 h2

theorem Lists.at {w : World} {G d n k p : Nat} {V : Nat → Value} (h : Lists w G d n k V) (hp : p < n) : IntsAt w (G + 1) (V p) (chUp d k p) := by
  by_cases e : chUp d k p = []
  · exact .inl ⟨e, h.nil p hp e⟩
  · have hown := h.own p hp
    obtain ⟨g, cap, hv, _, _⟩ := hown.form (List.length_pos_iff.2 e)
    rw [hv] at hown
    obtain ⟨h1, h2, _, h4⟩ := own_cells hown
    exact .inr ⟨e, g, cap, hv, h1, h2, h4⟩

/-- modelKidsQB1 at a node of the tree: what kids gives. -/
theorem model_any (d n home v hg B : Nat) (cv : Value) (h : Nat → Bool) (w : World) (hd : 1 ≤ d) (hn : n ≤ 65536) (hh : home < n) (hvn : v < n)
    (hhg : hg < w.heap.size) (hch : ∀ i, i < n → w.cell? ⟨hg, i, none⟩ = some (.bool (h i))) (hcv : IntsAt w B cv (chUp d n v)) :
    Calls Try.prog 12 #[cv, .slice (some ⟨hg, 0, none⟩) n n, .int .i64 home, .int .i64 (twd d home v)] w fun e w' =>
      ∃ u, e = .returned u ∧ IntsAt w' w.heap.size u (kidsL d n home v h) ∧ Below w.heap.size w w' := by
  have hl : (chUp d n v).length = cnt d n v := by rw [chUp_all]; simp
  rcases hcv with ⟨e, rfl⟩ | ⟨e, cg, cap, rfl, _, hcg, hcc⟩
  · refine (model_nil hg n home _ w).mono fun e' w' ⟨he, hw⟩ => ?_
    subst hw
    refine ⟨_, he, .inl ⟨?_, rfl⟩, Below.refl _ _⟩
    rw [e] at hl
    unfold kidsL pick
    rw [← hl]
    simp [kord]
  · have h0 : 0 < cnt d n v := by rw [← hl]; exact List.length_pos_iff.2 e
    have hcc' : ∀ i, i < cnt d n v → w.cell? ⟨cg, i, none⟩ = some (.int .i64 ((d * v + 1 + i : Nat) : Int)) := by
      intro i hi
      rw [hcc i (by omega), chUp_all]
      simp [List.getD, hi]
    rw [hl]
    refine model_some hg n cg cap (d * v + 1) (cnt d n v) home (startOf d n home v) _ h w hn h0 (by unfold cnt at *; omega) (startOf_lt hd hh h0) (by omega) hhg hcg hch hcc' ?_
    rcases twd_cases d home v with ht | ⟨x, ht, hx1, hx2, hx3⟩
    · exact .inl ⟨ht, by unfold startOf; rw [if_pos ht]⟩
    · right
      have := (child_iff hd hx1).1 hx3
      unfold startOf
      rw [if_neg (by omega), ht]
      simp
      omega
end Go.Proofs.Qxb6600850a
