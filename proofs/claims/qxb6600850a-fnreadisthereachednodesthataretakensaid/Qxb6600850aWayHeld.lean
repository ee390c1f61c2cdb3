/- wayHeldByMajoritiesQB1 (function 26), containsIntQB1 (21). -/
import Derived.Test.Qxb6600850aForms
import Derived.Test.Qxb6600850aHomeMath
namespace Go.Proofs.Qxb6600850a
open Go.RowKit
set_option linter.unusedVariables false

set_option maxHeartbeats 400000 in
theorem has_some (ao : Option Addr) (n cap : Nat) (L : List Nat) (x : Int) (w : World) (hn : L.length = n) (hn2 : n ≤ 65536) (hc : 0 < n → ∃ g, ao = some ⟨g, 0, none⟩ ∧ g < w.heap.size ∧ ∀ i, i < n → w.cell? ⟨g, i, none⟩ = some (.int .i64 (L.getD i 0 : Nat))) :
    Calls Try.prog 21 #[.slice ao n cap, .int .i64 x] w fun e w' => e = .returned (.bool (hasB L x)) ∧ w = w' := by
  have Hn : Hid (L.length = n) := hn
  have HC := (⟨hc⟩ : PLift _)
  clear hn hc
  go_enter Try.func21, Try.ntmps21
  go_wp2
  go_loop [5] (fun i => ∃ k : Nat, k ≤ n ∧ i = .int .i64 k ∧ Hid (∀ j, j < k → ((L.getD j 0 : Nat) : Int) ≠ x)) (fun i => n - (intOf i).toNat)
  case atStart => exact ⟨0, Nat.zero_le _, rfl, fun j hj => by omega⟩
  case round =>
    obtain ⟨k, hk, rfl, hno⟩ := hrel
    by_cases hlt : k < n
    · obtain ⟨g, rfl, hg, hcc⟩ := HC.down (by omega)
      have hck := hcc k hlt
      obtain ⟨y, hy⟩ : ∃ y, L.getD k 0 = y := ⟨_, rfl⟩
      rw [hy] at hck
      have Hy : Hid (L.getD k 0 = y) := hy
      clear hy hcc
      by_cases e : (y : Int) = x
      · have e' : ((y : Int) == x) = true := by simpa using e
        have HY : Hid (hasB L x = true) := hasB_yes (k := k) (by rw [Hn.out]; exact hlt) (by rw [Hy.out]; exact e)
        clear e
        go_wp2
        go_ret
        exact ⟨ret_bool' HY.out.symm, rfl⟩
      · have e' : ((y : Int) == x) = false := by simpa using e
        have HN : Hid (∀ j, j < k + 1 → ((L.getD j 0 : Nat) : Int) ≠ x) := by
          intro j hj
          by_cases ej : j = k
          · subst ej; rw [Hy.out]; exact e
          · exact hno.out j (by omega)
        clear e
        go_wp2
        go_round
        case rel => exact ⟨k + 1, by omega, by go_num, HN⟩
        case measure => simp [intOf]; omega
    · have HY : Hid (hasB L x = false) := hasB_no (fun j hj => hno.out j (by have := Hn.out; omega))
      go_wp2
      go_ret
      exact ⟨ret_bool' HY.out.symm, rfl⟩

/-- The loop's relation: what is left of the way is below k. -/
def WayLeft (d n home k : Nat) (h : Nat → Bool) : Prop := ∀ p x : Nat, twd d home p = (x : Int) → twd d k p = (x : Int) ∨ (h x = true ∧ cnt d n p < 2 * marked (d * p + 1) (cnt d n p) h)

theorem wayLeft_step {d n home k q : Nat} {h : Nat → Bool} (hk : 0 < k) (hq : (k - 1) / d = q) (hW : WayLeft d n home k h) (h1 : h k = true) (h2 : cnt d n q < 2 * marked (d * q + 1) (cnt d n q) h) : WayLeft d n home q h := by
  intro p x hx
  rcases hW p x hx with h' | h'
  · rw [twd_step d k p hk, hq] at h'
    by_cases e : q = p
    · rw [if_pos e] at h'
      have : x = k := by omega
      subst this e
      exact .inr ⟨h1, h2⟩
    · rw [if_neg e] at h'
      exact .inl h'
  · exact .inr h'

theorem wayLeft_end {d n home : Nat} {h : Nat → Bool} (hW : WayLeft d n home 0 h) : WayOk d n home h := by
  intro p x hx
  rcases hW p x hx with h' | h'
  · rw [twd_zero] at h'; omega
  · exact h'

/-- What it answers: if yes, then all is well on the way. -/
def WayRes (d n home : Nat) (h : Nat → Bool) (e : Ending) : Prop := ∃ r, e = .returned (.bool r) ∧ (r = true → WayOk d n home h)

set_option maxRecDepth 100000 in
set_option maxHeartbeats 1000000 in
theorem wayHeld_any (d n home G b off cap : Nat) (h : Nat → Bool) (w : World) (hd : 1 ≤ d) (hd2 : d ≤ 9223372036854775807) (hn : n ≤ 65536) (hh : home < n) (hL : LForm w G d n) (hc : ∀ i, i < n → w.cell? ⟨b, off + i, none⟩ = some (.bool (h i))) :
    Calls Try.prog 26 #[.int .i64 d, .int .i64 home, .slice (some ⟨b, off, none⟩) n cap, .slice (some ⟨G, 0, none⟩) n n] w fun e w' =>
      WayRes d n home h e ∧ w = w' := by
  have HL := (⟨hL⟩ : PLift (LForm w G d n))
  have HC := (⟨hc⟩ : PLift _)
  clear hL hc
  go_enter Try.func26, Try.ntmps26
  go_wp2
  go_loop [9] (fun c => ∃ k : Nat, k ≤ home ∧ c = .int .i64 k ∧ Hid (WayLeft d n home k h)) (fun c => (intOf c).toNat)
  case atStart => exact ⟨home, Nat.le_refl _, rfl, fun p x hx => .inl hx⟩
  case round =>
    obtain ⟨k, hk, rfl, hW⟩ := hrel
    by_cases hk0 : 0 < k
    · have ck := HC.down k (by omega)
      by_cases hx : h k = true
      · rw [hx] at ck
        have Hx : Hid (h k = true) := hx
        obtain ⟨q, hq⟩ : ∃ q, (k - 1) / d = q := ⟨_, rfl⟩
        have hqk : q < k := by rw [← hq]; exact par_lt hk0
        have hqI : ((k : Int) - 1) / (d : Int) = (q : Int) := by rw [← hq]; exact par_int hk0
        have Hq : Hid ((k - 1) / d = q) := hq
        clear hx hq
        obtain ⟨ao, cp, hV, hfm⟩ := HL.down.2 q (by omega)
        obtain ⟨C, hC⟩ : ∃ C, cnt d n q = C := ⟨_, rfl⟩
        have hCn : C ≤ n := by rw [← hC]; unfold cnt; omega
        have hgt : ∀ j, j < C → d * q + 1 + j < n := fun j hj => (child_gt hd (hC ▸ hj)).2
        rw [hC] at hV hfm
        have HCC : Hid (cnt d n q = C) := hC
        clear hC
        obtain ⟨F, hF⟩ : ∃ F, d * q + 1 = F := ⟨_, rfl⟩
        rw [hF] at hfm hgt
        have HF : Hid (d * q + 1 = F) := hF
        clear hF
        go_wp2
        go_loop [12, 13] (fun a i => ∃ j : Nat, j ≤ C ∧ i = .int .i64 j ∧ a = .int .i64 (marked F j h)) (fun _ i => C - (intOf i).toNat)
        case atStart => exact ⟨0, Nat.zero_le _, rfl, rfl⟩
        case round =>
          obtain ⟨j, hj, rfl, rfl⟩ := hrel
          have hm1 := marked_le F j h
          by_cases hlt : j < C
          · obtain ⟨g0, rfl, hg0, hcc⟩ := hfm (by omega)
            have e0 : w.cell? ⟨g0, j, none⟩ = some (.int .i64 ((F : Int) + (j : Int))) := by simpa using hcc j hlt
            have hFn := hgt j hlt
            have e1 := HC.down (F + j) hFn
            have M1 : Hid (marked F (j + 1) h = marked F j h + if h (F + j) then 1 else 0) := marked_succ F j h
            clear hcc hgt hfm
            by_cases x1 : h (F + j) = true
            · rw [x1] at e1
              have M1' : Hid (marked F (j + 1) h = marked F j h + 1) := by have := M1.out; rw [if_pos x1] at this; exact this
              clear x1 M1
              go_wp2
              go_round
              case rel => exact ⟨j + 1, by omega, by go_num, by rw [M1'.out]; go_num⟩
              case measure => simp [intOf]; omega
            · have x1' : h (F + j) = false := by simpa using x1
              rw [x1'] at e1
              have M1' : Hid (marked F (j + 1) h = marked F j h) := by have := M1.out; rw [if_neg x1] at this; exact this
              clear x1 x1' M1
              go_wp2
              go_round
              case rel => exact ⟨j + 1, by omega, by go_num, by rw [M1'.out]⟩
              case measure => simp [intOf]; omega
          · obtain rfl : j = C := by omega
            clear hgt hfm hlt
            by_cases hmaj : j < 2 * marked F j h
            · have HW2 : Hid (WayLeft d n home q h) := wayLeft_step hk0 Hq.out hW.out Hx.out (by rw [HF.out, HCC.out]; exact hmaj)
              go_wp2
              go_round
              case rel => exact ⟨q, by omega, rfl, HW2⟩
              case measure => simp [intOf]; omega
            · go_wp2
              go_ret
              exact ⟨⟨false, rfl, fun e => by simp at e⟩, rfl⟩
      · have hx' : h k = false := by simpa using hx
        rw [hx'] at ck
        clear hx hx'
        go_wp2
        go_ret
        exact ⟨⟨false, rfl, fun e => by simp at e⟩, rfl⟩
    · obtain rfl : k = 0 := by omega
      go_wp2
      go_ret
      exact ⟨⟨true, rfl, fun _ => wayLeft_end hW.out⟩, rfl⟩
end Go.Proofs.Qxb6600850a
