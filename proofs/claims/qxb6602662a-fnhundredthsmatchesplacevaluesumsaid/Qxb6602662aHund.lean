/- hundredths (15), ZZHundredths (8), hundredthsModel (9), the bound (7), the law FnHundredthsMatchesPlaceValueSum (3). -/
import Derived.Test.Qxb6602662aHundMath
namespace Go.Proofs.Qxb6602662a
open Go.RowKit
set_option linter.unusedVariables false

theorem ret_int {k : IntKind} {a b : Int} (h : a = b) : Ending.returned (.int k a) = .returned (.int k b) := by rw [h]

theorem vd_start (a : ByteArray) : (0 : Int) = wrap64 (vd a 0) := by simp [vd, wrap64]

/-- The fraction's two rounds. -/
def fr (a f : ByteArray) : Nat → Int
  | 0 => vd a a.size
  | k + 1 => fr a f k * 10 + fd f k

theorem fr_two (a f : ByteArray) : fr a f 2 = hundN a f := rfl

set_option maxHeartbeats 1000000 in
theorem hund_any (a f : ByteArray) (w : World) (ha : a.size ≤ 65536) (hf : f.size ≤ 65536) :
    Calls Try.prog 15 #[.string a, .string f] w fun e w' => e = .returned (.int .i64 (wrap64 (hundN a f))) ∧ w = w' := by
  obtain ⟨N, hN⟩ : ∃ N, wrap64 (hundN a f) = N := ⟨_, rfl⟩
  have HN : Hid (wrap64 (hundN a f) = N) := hN
  rw [hN]
  clear hN
  go_enter Try.func15, Try.ntmps15
  go_wp2
  go_loop [5, 6] (fun n i => ∃ k : Nat, ∃ z : Int, k ≤ a.size ∧ i = .int .i64 k ∧ n = .int .i64 z ∧ Hid (z = wrap64 (vd a k))) (fun _ i => a.size - (intOf i).toNat)
  case atStart => exact ⟨0, 0, Nat.zero_le _, rfl, rfl, vd_start a⟩
  case round =>
    obtain ⟨k, z, hk, rfl, rfl, hz⟩ := hrel
    by_cases hlt : k < a.size
    · have e2 := byteAt_eq a k hlt
      obtain ⟨y, hy⟩ : ∃ y, byteAt a k = y := ⟨_, rfl⟩
      rw [hy] at e2
      have HZ : Hid (wrap64 (wrap64 (z * 10) + ((y : Int) - 48) % 256) = wrap64 (vd a (k + 1))) := by
        show wrap64 (wrap64 (z * 10) + ((y : Int) - 48) % 256) = _
        rw [hz.out, wrap_step]
        simp only [vd, hy, dv]
      clear hy hz
      go_wp2
      go_round
      case rel => exact ⟨k + 1, _, by omega, by go_num, rfl, HZ.out⟩
      case measure => simp [intOf]; omega
    · obtain rfl : k = a.size := by omega
      go_wp2
      go_loop [5, 7] (fun n i => ∃ k : Nat, ∃ z : Int, k ≤ 2 ∧ i = .int .i64 k ∧ n = .int .i64 z ∧ Hid (z = wrap64 (fr a f k))) (fun _ i => 2 - (intOf i).toNat)
      case atStart => exact ⟨0, z, by omega, rfl, rfl, hz.out⟩
      case round =>
        clear hz
        obtain ⟨k, z, hk2, rfl, rfl, hz⟩ := hrel
        by_cases hlt2 : k < 2
        · by_cases hkf : k < f.size
          · have e2 := byteAt_eq f k hkf
            obtain ⟨y, hy⟩ : ∃ y, byteAt f k = y := ⟨_, rfl⟩
            rw [hy] at e2
            have HZ : Hid (wrap64 (wrap64 (z * 10) + ((y : Int) - 48) % 256) = wrap64 (fr a f (k + 1))) := by
              show wrap64 (wrap64 (z * 10) + ((y : Int) - 48) % 256) = _
              rw [hz.out, wrap_step]
              simp only [fr, fd, if_pos hkf, hy, dv]
            clear hy hz
            go_wp2
            go_round
            case rel => exact ⟨k + 1, _, by omega, by go_num, rfl, HZ.out⟩
            case measure => simp [intOf]; omega
          · have HZ : Hid (wrap64 (z * 10) = wrap64 (fr a f (k + 1))) := by
              show wrap64 (z * 10) = _
              rw [hz.out, wrap_mul]
              simp only [fr, fd, if_neg hkf, Int.add_zero]
            clear hz
            go_wp2
            go_round
            case rel => exact ⟨k + 1, _, by omega, by go_num, rfl, HZ.out⟩
            case measure => simp [intOf]; omega
        · obtain rfl : k = 2 := by omega
          have HF : Hid (z = N) := hz.out.trans HN.out
          clear hz
          go_wp2
          go_ret
          exact ⟨ret_int HF.out, rfl⟩

set_option maxHeartbeats 400000 in
theorem zzHund_any (a f : ByteArray) (w : World) (ha : a.size ≤ 65536) (hf : f.size ≤ 65536) :
    Calls Try.prog 8 #[.string a, .string f] w fun e w' => e = .returned (.int .i64 (wrap64 (hundN a f))) ∧ w = w' := by
  obtain ⟨N, hN⟩ : ∃ N, wrap64 (hundN a f) = N := ⟨_, rfl⟩
  have H := (⟨fun w => hund_any a f w ha hf⟩ : PLift _)
  rw [hN] at H ⊢
  clear hN
  go_enter Try.func8, Try.ntmps8
  go_wp2_with (go_at_call 15; refine (H.down _).mono ?_; rintro e w' ⟨rfl, rfl⟩)
  go_ret
  exact ⟨rfl, rfl⟩

/-- What the model's loop keeps. -/
def MRel (a f : ByteArray) (j : Nat) (z q : Int) : Prop := z = sumN a f j % 18446744073709551616 ∧ q = (100 * 10 ^ j) % 18446744073709551616

theorem mrel_start (a f : ByteArray) {z : Int} (hz : z = fd f 1 + fd f 0 * 10) : MRel a f 0 z 100 := by
  obtain ⟨h1, h2, h3⟩ := sumN_small a f
  refine ⟨?_, by simp⟩
  rw [hz, ← h1]
  omega

theorem mrel_step {a f : ByteArray} {j v y : Nat} {z q : Int} (h : MRel a f j z q) (hv : a.size - 1 - j = v) (hy : byteAt a v = y) :
    MRel a f (j + 1) (IntKind.u64.wrap (z + IntKind.u64.wrap (((y : Int) - 48) % 256 * q))) (IntKind.u64.wrap (q * 10)) := by
  obtain ⟨h1, h2⟩ := h
  constructor
  · rw [h1, h2, u64_add, sumN_succ, hv, hy]
    rfl
  · rw [h2, u64_mul, Int.pow_succ, Int.mul_assoc]

theorem mrel_end {a f : ByteArray} {z q : Int} (h : MRel a f a.size z q) : wrap64 z = wrap64 (hundN a f) := by
  rw [h.1, wrap_u64_of, sum_hund]

set_option maxHeartbeats 1000000 in
theorem model_any (a f : ByteArray) (w : World) (ha : a.size ≤ 65536) (hf : f.size ≤ 65536) :
    Calls Try.prog 9 #[.string a, .string f] w fun e w' => e = .returned (.int .i64 (wrap64 (hundN a f))) ∧ w = w' := by
  obtain ⟨N, hN⟩ : ∃ N, wrap64 (hundN a f) = N := ⟨_, rfl⟩
  have HN : Hid (∀ z q, MRel a f a.size z q → wrap64 z = N) := fun z q h => (mrel_end h).trans hN
  rw [hN]
  clear hN
  have hcase : (f.size = 0 ∧ fd f 1 + fd f 0 * 10 = 0) ∨ (f.size = 1 ∧ ∃ h : 0 < f.size, fd f 1 + fd f 0 * (10 : Int) = ((f[0].toNat : Int) - (48 : Int)) % (256 : Int) * (10 : Int)) ∨ (2 ≤ f.size ∧ ∃ (h0 : 0 < f.size) (h1 : 1 < f.size), fd f 1 + fd f 0 * (10 : Int) = ((f[1].toNat : Int) - (48 : Int)) % (256 : Int) + ((f[0].toNat : Int) - (48 : Int)) % (256 : Int) * (10 : Int)) := by
    by_cases c0 : f.size = 0
    · left; exact ⟨c0, by simp [fd, c0]⟩
    · by_cases c1 : f.size = 1
      · right; left
        have h0 : 0 < f.size := by omega
        refine ⟨c1, h0, ?_⟩
        rw [byteAt_eq f 0 h0]
        unfold fd dv
        rw [if_neg (by omega), if_pos h0]
        omega
      · right; right
        have h0 : 0 < f.size := by omega
        have h1 : 1 < f.size := by omega
        refine ⟨by omega, h0, h1, ?_⟩
        rw [byteAt_eq f 0 h0, byteAt_eq f 1 h1]
        unfold fd dv
        rw [if_pos h1, if_pos h0]
  rcases hcase with ⟨hs, hb⟩ | ⟨hs, h0, hb⟩ | ⟨hs, h0, h1, hb⟩
  all_goals
    have HB : Hid _ := mrel_start a f hb.symm
    clear hb
    go_enter Try.func9, Try.ntmps9
    go_wp2
    go_loop [5, 6, 7] (fun n p i => ∃ z q x : Int, ∃ j : Nat, x + 1 + (j : Int) = (a.size : Int) ∧ i = .int .i64 x ∧ n = .int .u64 z ∧ p = .int .u64 q ∧ j ≤ a.size ∧ Hid (MRel a f j z q)) (fun _ _ i => (intOf i + 1).toNat)
    case atStart => exact ⟨_, _, _, 0, by omega, rfl, rfl, rfl, Nat.zero_le _, HB.out⟩
    case round =>
      clear HB
      obtain ⟨z, q, x, j, hx, rfl, rfl, rfl, hj, hM⟩ := hrel
      by_cases hlt : j < a.size
      · obtain ⟨v, hv⟩ : ∃ v, a.size - 1 - j = v := ⟨_, rfl⟩
        obtain rfl : x = (v : Int) := by omega
        have hva : v < a.size := by omega
        have e2 := byteAt_eq a v hva
        obtain ⟨y, hy⟩ : ∃ y, byteAt a v = y := ⟨_, rfl⟩
        rw [hy] at e2
        have HM : Hid (MRel a f (j + 1) (IntKind.u64.wrap (z + IntKind.u64.wrap (((y : Int) - 48) % 256 * q))) (IntKind.u64.wrap (q * 10))) := mrel_step hM.out hv hy
        clear hy hM hv
        go_wp2
        go_round
        case rel => exact ⟨_, _, (v : Int) - 1, j + 1, by omega, rfl, rfl, rfl, by omega, HM⟩
        case measure => simp [intOf]
      · obtain rfl : j = a.size := by omega
        obtain rfl : x = -1 := by omega
        have HF : Hid (wrap64 z = N) := HN.out z q hM.out
        clear hM hx
        go_wp2
        go_ret
        exact ⟨ret_int HF.out, rfl⟩

set_option maxHeartbeats 400000 in
theorem bytes7_yes (a b : ByteArray) (w : World) (h : a.size + b.size ≤ 1048576) : Calls Try.prog 7 #[.string a, .string b] w fun e w' => e = .returned (.bool true) ∧ w = w' := by
  go_enter Try.func7, Try.ntmps7
  go_wp2
  go_ret
  exact ⟨rfl, rfl⟩

set_option maxHeartbeats 400000 in
theorem bytes7_no (a b : ByteArray) (w : World) (ha : a.size ≤ 9223372036854775807) (hb : b.size ≤ 9223372036854775807) (h : 1048576 < a.size + b.size) : Calls Try.prog 7 #[.string a, .string b] w fun e w' => e = .returned (.bool false) ∧ w = w' := by
  by_cases h1 : 1048576 < a.size
  · go_enter Try.func7, Try.ntmps7
    go_wp2
    go_ret
    exact ⟨rfl, rfl⟩
  · by_cases h2 : 1048576 < b.size
    · go_enter Try.func7, Try.ntmps7
      go_wp2
      go_ret
      exact ⟨rfl, rfl⟩
    · go_enter Try.func7, Try.ntmps7
      go_wp2
      go_ret
      exact ⟨rfl, rfl⟩

set_option maxHeartbeats 1000000 in
theorem hund_law (a f : ByteArray) (w : World) (ha : a.size ≤ 9223372036854775807) (hf : f.size ≤ 9223372036854775807) :
    Calls Try.prog 3 #[.string a, .string f] w fun e w' => e = .returned (.bool true) ∧ w = w' := by
  by_cases hsum : 1048576 < a.size + f.size
  · go_enter Try.func3, Try.ntmps3
    go_wp2_with (go_at_call 7; refine (bytes7_no _ _ _ ha hf hsum).mono ?_; rintro e w' ⟨rfl, rfl⟩)
    go_ret
    exact ⟨rfl, rfl⟩
  · have hsum' : a.size + f.size ≤ 1048576 := by omega
    by_cases h1 : 65536 < a.size
    · go_enter Try.func3, Try.ntmps3
      go_wp2_with (go_at_call 7; refine (bytes7_yes _ _ _ hsum').mono ?_; rintro e w' ⟨rfl, rfl⟩)
      go_ret
      exact ⟨rfl, rfl⟩
    · by_cases h2 : 65536 < f.size
      · go_enter Try.func3, Try.ntmps3
        go_wp2_with (go_at_call 7; refine (bytes7_yes _ _ _ hsum').mono ?_; rintro e w' ⟨rfl, rfl⟩)
        go_ret
        exact ⟨rfl, rfl⟩
      · have H1 := (⟨fun w => zzHund_any a f w (by omega) (by omega)⟩ : PLift _)
        have H2 := (⟨fun w => model_any a f w (by omega) (by omega)⟩ : PLift _)
        obtain ⟨N, hN⟩ : ∃ N, wrap64 (hundN a f) = N := ⟨_, rfl⟩
        rw [hN] at H1 H2
        clear hN
        have hNN : (N == N) = true := by simp
        go_enter Try.func3, Try.ntmps3
        go_wp2_with (first | (go_at_call 7; refine (bytes7_yes _ _ _ hsum').mono ?_; rintro e w' ⟨rfl, rfl⟩) | (go_at_call 8; refine (H1.down _).mono ?_; rintro e w' ⟨rfl, rfl⟩) | (go_at_call 9; refine (H2.down _).mono ?_; rintro e w' ⟨rfl, rfl⟩))
        go_ret
        exact ⟨rfl, rfl⟩
end Go.Proofs.Qxb6602662a
