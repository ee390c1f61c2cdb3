/- wayChildQB1 (function 13): the child of v on the way down to home. -/
import Derived.Test.Qxb6600850aProg
import Derived.Test.Qxb6600850aTree
import Derived.WalkKit
import Derived.WalkSpells
namespace Go.Proofs.Qxb6600850a
open Go.RowKit

theorem ret_int {k : IntKind} {a b : Int} (h : a = b) : Ending.returned (.int k a) = .returned (.int k b) := by rw [h]

set_option maxHeartbeats 400000 in
theorem way_any (d home v : Nat) (w : World) (hd : 1 ≤ d) (hd2 : d ≤ 9223372036854775807) (hh : home ≤ 65536) (hv : v ≤ 65536) :
    Calls Try.prog 13 #[.int .i64 d, .int .i64 home, .int .i64 v] w fun e w' => e = .returned (.int .i64 (twd d home v)) ∧ w = w' := by
  go_enter Try.func13, Try.ntmps13
  go_wp2
  go_loop [7] (fun c => ∃ k : Nat, k ≤ home ∧ c = .int .i64 k ∧ Hid (twd d home v = twd d k v)) (fun c => (intOf c).toNat)
  case atStart => exact ⟨home, Nat.le_refl _, rfl, rfl⟩
  case round =>
    obtain ⟨k, hk, rfl, hkv⟩ := hrel
    by_cases hlt : v < k
    · obtain ⟨p, hpe⟩ : ∃ p, (k - 1) / d = p := ⟨_, rfl⟩
      have hp : p < k := by rw [← hpe]; exact par_lt (by omega)
      have hi : ((k : Int) - 1) / (d : Int) = (p : Int) := by rw [← hpe]; exact par_int (by omega)
      have hs := twd_step d k v (by omega)
      rw [hpe] at hs
      by_cases e : p = v
      · rw [if_pos e] at hs
        have HS : Hid (twd d home v = (k : Int)) := hkv.out.trans hs
        clear hs hkv hpe
        subst e
        go_wp2
        go_ret
        exact ⟨ret_int HS.out.symm, rfl⟩
      · rw [if_neg e] at hs
        have HS : Hid (twd d home v = twd d p v) := hkv.out.trans hs
        clear hs hkv hpe
        have e' : ((p : Int) == (v : Int)) = false := by simp; omega
        go_wp2
        go_round
        case rel => exact ⟨p, by omega, by rw [hi], HS⟩
        case measure => simp [intOf]; omega
    · have HS : Hid (twd d home v = -1) := hkv.out.trans (twd_ge d k v (by omega))
      clear hkv
      go_wp2
      go_ret
      exact ⟨ret_int HS.out.symm, rfl⟩
end Go.Proofs.Qxb6600850a
