/- quorumFlagsQB1 (function 24). -/
import Derived.Test.Qxb6600850aFlagsMath
import Derived.Test.Qxb6600850aSame
import Derived.Test.Qxb6600850aLists
namespace Go.Proofs.Qxb6600850a
open Go.RowKit
set_option linter.unusedVariables false

/-- The state of an array that is filled from the top down: from k on it is done. -/
def DownTo (k : Nat) (f : Nat → Bool) (j : Nat) : Bool := if k ≤ j then f j else false

theorem downTo_start (n : Nat) (f : Nat → Bool) (w : World) (g : Nat) (hg : w.heap.size = g) : (w.alloc (.cells (madeCells #[.bool false] n) 4)).rowIs g 4 n (fun j => .bool (DownTo n f j)) :=
  hg ▸ (World.rowIs_made w (.bool false) n 4).congr fun i hi => by simp [DownTo, show ¬ n ≤ i by omega]

theorem downTo_step {w : World} {g n v : Nat} {f : Nat → Bool} {b : Bool} (hr : w.rowIs g 4 n (fun j => .bool (DownTo (v + 1) f j))) (hb : b = f v) : (w.setCell ⟨g, v, none⟩ (.bool b)).rowIs g 4 n (fun j => .bool (DownTo v f j)) :=
  (hr.set v _).congr fun i hi => by
    subst hb
    by_cases e : i = v
    · subst e; simp [DownTo]
    · have : (v + 1 ≤ i) = (v ≤ i) := by apply propext; omega
      simp [DownTo, e, this]

theorem dec_cast (j m : Nat) : decide ((j : Int) < 2 * (m : Int)) = decide (j < 2 * m) := by
  rw [decide_eq_decide]; omega

/-- What a list of children looks like: one form for none and for some. -/
theorem Lists.form {w : World} {G d n p : Nat} {V : Nat → Value} (h : Lists w G d n n V) (hp : p < n) :
    ∃ (ao : Option Addr) (cap : Nat), V p = .slice ao (cnt d n p) cap ∧ (0 < cnt d n p → ∃ g, ao = some ⟨g, 0, none⟩ ∧ g < w.heap.size ∧ ∀ i, i < cnt d n p → w.cell? ⟨g, i, none⟩ = some (.int .i64 ((d * p + 1 + i : Nat) : Int))) := by
  have hl : (chUp d n p).length = cnt d n p := by rw [chUp_all]; simp
  rcases h.at hp with ⟨e, hv⟩ | ⟨e, g, cap, hv, _, h2, h3⟩
  · rw [e] at hl
    refine ⟨none, 0, by rw [hv, ← hl]; rfl, fun h0 => ?_⟩
    rw [← hl] at h0
    simp at h0
  · rw [hl] at hv
    refine ⟨_, cap, hv, fun _ => ⟨g, rfl, h2, fun i hi => ?_⟩⟩
    rw [h3 i (by omega), chUp_all]
    simp [List.getD, hi]

set_option maxRecDepth 100000 in
set_option maxHeartbeats 1000000 in
theorem flags_any (d n G lg : Nat) (V : Nat → Value) (lv : Nat → Bool) (w : World) (hd : 1 ≤ d) (h1 : 1 ≤ n) (hn : n ≤ 65536) (hL : Lists w G d n n V) (hlg : lg < w.heap.size) (hcl : ∀ i, i < n → w.cell? ⟨lg, i, none⟩ = some (.bool (lv i))) :
    Calls Try.prog 24 #[.slice (some ⟨G, 0, none⟩) n n, .slice (some ⟨lg, 0, none⟩) n n] w fun e w' =>
      ∃ gr gw, e = .returned (.tuple #[.slice (some ⟨gr, 0, none⟩) n n, .slice (some ⟨gw, 0, none⟩) n n]) ∧ w.heap.size ≤ gr ∧ w.heap.size ≤ gw ∧ w'.rowIs gr 4 n (fun i => .bool (flag d n (rRule d n lv) i)) ∧ w'.rowIs gw 4 n (fun i => .bool (flag d n (wRule d n lv) i)) ∧ Below w.heap.size w w' := by
  have hmk := run_make_row' (P := Try.prog) 22 4 (.bool false) 1 Try.underlying22 Try.info4 rfl .i64 .i64 n (by omega) (by omega)
  obtain ⟨R, hRe⟩ : ∃ R, R = flag d n (rRule d n lv) := ⟨_, rfl⟩
  obtain ⟨W, hWe⟩ : ∃ W, W = flag d n (wRule d n lv) := ⟨_, rfl⟩
  have HR : Hid (R = flag d n (rRule d n lv)) := hRe
  have HW : Hid (W = flag d n (wRule d n lv)) := hWe
  rw [← hRe, ← hWe]
  clear hRe hWe
  go_enter Try.func24, Try.ntmps24
  go_wp2
  go_loopw [9] (fun v wr => ∃ k : Nat, ∃ z : Int, k ≤ n ∧ z + 1 = (k : Int) ∧ v = .int .i64 z ∧ wr.rowIs w.heap.size 4 n (fun j => .bool (DownTo k R j)) ∧ wr.rowIs (w.heap.size + 1) 4 n (fun j => .bool (DownTo k W j)) ∧ Below w.heap.size w wr) (fun v _ => (intOf v + 1).toNat)
  case atStart => exact ⟨n, _, Nat.le_refl _, by omega, rfl, (downTo_start n R w _ rfl).alloc _, downTo_start n W _ _ (by simp), ((Below.refl _ _).alloc (Nat.le_refl _) _).alloc (by simp) _⟩
  case round =>
    obtain ⟨k, z, hk, hz, rfl, hr1, hr2, hbel⟩ := hrel
    by_cases hk0 : 0 < k
    · obtain ⟨v, rfl⟩ : ∃ v, k = v + 1 := ⟨k - 1, by omega⟩
      obtain rfl : z = (v : Int) := by omega
      clear hz hk0
      obtain ⟨ao, cap, hV, hfm⟩ := hL.form (p := v) (by omega)
      have hcV : wr.cell? ⟨G, v, none⟩ = some (.slice ao (cnt d n v) cap) := (hbel.cell (p := ⟨G, v, none⟩) hL.top.lt).trans (by rw [hL.top.cell (i := v) (by omega), hV])
      have hcL : wr.cell? ⟨lg, v, none⟩ = some (.bool (lv v)) := (hbel.cell (p := ⟨lg, v, none⟩) hlg).trans (hcl v (by omega))
      obtain ⟨C, hC⟩ : ∃ C, cnt d n v = C := ⟨_, rfl⟩
      have hCn : C ≤ n := by rw [← hC]; unfold cnt; omega
      have hgt : ∀ j, j < C → v + 1 ≤ d * v + 1 + j ∧ d * v + 1 + j < n := fun j hj => by
        have := child_gt hd (hC ▸ hj); omega
      rw [hC] at hcV hfm
      have HC : Hid (cnt d n v = C) := hC
      clear hV hC
      obtain ⟨F, hF⟩ : ∃ F, d * v + 1 = F := ⟨_, rfl⟩
      rw [hF] at hfm hgt
      have HF : Hid (d * v + 1 = F) := hF
      clear hF
      have hcg1 : ∀ j, j < C → wr.cell? ⟨w.heap.size, F + j, none⟩ = some (.bool (R (F + j))) := fun j hj => by
        rw [hr1.cell (hgt j hj).2]; simp [DownTo, (hgt j hj).1]
      have hcg2 : ∀ j, j < C → wr.cell? ⟨w.heap.size + 1, F + j, none⟩ = some (.bool (W (F + j))) := fun j hj => by
        rw [hr2.cell (hgt j hj).2]; simp [DownTo, (hgt j hj).1]
      have hq1 := hr1.cell (i := v) (by omega)
      have hq2 := hr2.cell (i := v) (by omega)
      have hf1 := hr1.frozen v
      have hf2 := hr2.frozen v
      have HR1 := (⟨hr1⟩ : PLift _)
      have HR2 := (⟨hr2⟩ : PLift _)
      clear hr1 hr2
      go_wp2
      go_loop [12, 13, 14] (fun a b i => ∃ j : Nat, j ≤ C ∧ i = .int .i64 j ∧ a = .int .i64 (marked F j R) ∧ b = .int .i64 (marked F j W)) (fun _ _ i => C - (intOf i).toNat)
      case atStart => exact ⟨0, Nat.zero_le _, rfl, rfl, rfl⟩
      case round =>
        obtain ⟨j, hj, rfl, rfl, rfl⟩ := hrel
        have hm1 := marked_le F j R
        have hm2 := marked_le F j W
        by_cases hlt : j < C
        · obtain ⟨g0, rfl, hg0, hcc⟩ := hfm (by omega)
          have e0 : wr.cell? ⟨g0, j, none⟩ = some (.int .i64 ((F : Int) + (j : Int))) := (hbel.cell (p := ⟨g0, j, none⟩) hg0).trans (by simpa using hcc j hlt)
          have e1 := hcg1 j hlt
          have e2 := hcg2 j hlt
          have hFn := (hgt j hlt).2
          have M1 : Hid (marked F (j + 1) R = marked F j R + if R (F + j) then 1 else 0) := marked_succ F j R
          have M2 : Hid (marked F (j + 1) W = marked F j W + if W (F + j) then 1 else 0) := marked_succ F j W
          clear hcg1 hcg2 hcc hgt hfm
          by_cases x1 : R (F + j) = true
          · rw [x1] at e1
            have M1' : Hid (marked F (j + 1) R = marked F j R + 1) := by have := M1.out; rw [if_pos x1] at this; exact this
            clear x1 M1
            by_cases x2 : W (F + j) = true
            · rw [x2] at e2
              have M2' : Hid (marked F (j + 1) W = marked F j W + 1) := by have := M2.out; rw [if_pos x2] at this; exact this
              clear x2 M2
              go_wp2
              go_round
              case rel => exact ⟨j + 1, by omega, by go_num, by rw [M1'.out]; go_num, by rw [M2'.out]; go_num⟩
              case measure => simp [intOf]; omega
            · have x2' : W (F + j) = false := by simpa using x2
              rw [x2'] at e2
              have M2' : Hid (marked F (j + 1) W = marked F j W) := by have := M2.out; rw [if_neg x2] at this; exact this
              clear x2 x2' M2
              go_wp2
              go_round
              case rel => exact ⟨j + 1, by omega, by go_num, by rw [M1'.out]; go_num, by rw [M2'.out]⟩
              case measure => simp [intOf]; omega
          · have x1' : R (F + j) = false := by simpa using x1
            rw [x1'] at e1
            have M1' : Hid (marked F (j + 1) R = marked F j R) := by have := M1.out; rw [if_neg x1] at this; exact this
            clear x1 x1' M1
            by_cases x2 : W (F + j) = true
            · rw [x2] at e2
              have M2' : Hid (marked F (j + 1) W = marked F j W + 1) := by have := M2.out; rw [if_pos x2] at this; exact this
              clear x2 M2
              go_wp2
              go_round
              case rel => exact ⟨j + 1, by omega, by go_num, by rw [M1'.out], by rw [M2'.out]; go_num⟩
              case measure => simp [intOf]; omega
            · have x2' : W (F + j) = false := by simpa using x2
              rw [x2'] at e2
              have M2' : Hid (marked F (j + 1) W = marked F j W) := by have := M2.out; rw [if_neg x2] at this; exact this
              clear x2 x2' M2
              go_wp2
              go_round
              case rel => exact ⟨j + 1, by omega, by go_num, by rw [M1'.out], by rw [M2'.out]⟩
              case measure => simp [intOf]; omega
        · obtain rfl : j = C := by omega
          clear hcg1 hcg2 hgt hfm hlt
          have er : R v = (lv v || decide (j < 2 * marked F j R)) := by
            have := flag_eq d n (rRule d n lv) hd (v := v) (by omega)
            rw [← HR.out, HF.out, HC.out] at this
            rw [this]; unfold rRule; rw [HC.out]
          have ew : W v = (lv v && (decide (j = 0) || decide (j < 2 * marked F j W))) := by
            have := flag_eq d n (wRule d n lv) hd (v := v) (by omega)
            rw [← HW.out, HF.out, HC.out] at this
            rw [this]; unfold wRule; rw [HC.out]
          have HER : Hid (R v = (lv v || decide (j < 2 * marked F j R))) := er
          have HEW : Hid (W v = (lv v && (decide (j = 0) || decide (j < 2 * marked F j W)))) := ew
          clear er ew
          obtain ⟨m1, hm1e⟩ : ∃ m, marked F j R = m := ⟨_, rfl⟩
          obtain ⟨m2, hm2e⟩ : ∃ m, marked F j W = m := ⟨_, rfl⟩
          rw [hm1e] at hm1 HER ⊢
          rw [hm2e] at hm2 HEW ⊢
          clear hm1e hm2e
          by_cases hl : lv v = true
          · rw [hl] at hcL
            by_cases hj0 : j = 0
            · subst hj0
              go_wp2
              go_roundw
              case rel => exact ⟨v, _, by omega, by omega, rfl, (downTo_step HR1.down (by rw [HER.out, hl]; simp)).setOther (by simp) _, downTo_step (HR2.down.setOther (by simp) _) (by rw [HEW.out, hl]; simp), (hbel.setCell (Nat.le_refl _) _).setCell (by simp) _⟩
              case measure => simp [intOf]
            · have hjb : ((j : Int) == 0) = false := by simp; omega
              go_wp2
              go_roundw
              case rel => exact ⟨v, _, by omega, by omega, rfl, (downTo_step HR1.down (by rw [HER.out, hl]; simp)).setOther (by simp) _, downTo_step (HR2.down.setOther (by simp) _) (by rw [HEW.out, hl, dec_cast]; simp [hj0]), (hbel.setCell (Nat.le_refl _) _).setCell (by simp) _⟩
              case measure => simp [intOf]
          · have hl' : lv v = false := by simpa using hl
            rw [hl'] at hcL
            go_wp2
            go_roundw
            case rel => exact ⟨v, _, by omega, by omega, rfl, (downTo_step HR1.down (by rw [HER.out, hl', dec_cast]; simp)).setOther (by simp) _, downTo_step (HR2.down.setOther (by simp) _) (by rw [HEW.out, hl']; simp), (hbel.setCell (Nat.le_refl _) _).setCell (by simp) _⟩
            case measure => simp [intOf]
    · obtain rfl : k = 0 := by omega
      obtain rfl : z = -1 := by omega
      go_wp2
      go_ret2
      exact ⟨_, _, rfl, Nat.le_refl _, by omega, hr1.congr (fun i _ => by simp [DownTo]), hr2.congr (fun i _ => by simp [DownTo]), hbel⟩
end Go.Proofs.Qxb6600850a
