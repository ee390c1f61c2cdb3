/- FnReadIsTheReachedNodesThatAreTaken (function 6): the inputs of which the law says nothing. -/
import Derived.Test.Qxb6600850aTaken
namespace Go.Proofs.Qxb6600850a
open Go.RowKit
set_option linter.unusedVariables false

set_option maxRecDepth 100000 in
set_option maxHeartbeats 4000000 in
theorem taken_early (a0 a1 a2 : Int) (a b : Option Addr) (n1 k1 n2 k2 : Nat) (w : World) (hm1 : n1 ≤ 9223372036854775807) (hm2 : n2 ≤ 9223372036854775807)
    (hbad : 65536 < n1 ∨ 65536 < n2 ∨ a0 < 1 ∨ a1 < 1 ∨ 65536 < a1 ∨ a2 < 0 ∨ a1 ≤ a2 ∨ (n1 : Int) ≠ a1 ∨ (n2 : Int) ≠ a1) :
    Calls Try.prog 6 #[.int .i64 a0, .int .i64 a1, .int .i64 a2, .slice a n1 k1, .slice b n2 k2] w fun e w' => e = .returned (.bool true) ∧ w = w' := by
  by_cases c0 : 1048576 < n1 + n2
  · clear hbad
    go_enter Try.func6, Try.ntmps6
    go_wp2_with (go_at_call 19; refine (bytes19_no _ _ _ _ _ _ _ _ _ _ hm1 hm2 c0).mono ?_; rintro e w' ⟨rfl, rfl⟩)
    go_ret
    exact ⟨rfl, rfl⟩
  have c0' : n1 + n2 ≤ 1048576 := by omega
  by_cases c1 : 65536 < n1
  · clear hbad
    go_enter Try.func6, Try.ntmps6
    go_wp2_with (go_at_call 19; refine (bytes19_yes _ _ _ _ _ _ _ _ _ _ c0').mono ?_; rintro e w' ⟨rfl, rfl⟩)
    go_ret
    exact ⟨rfl, rfl⟩
  by_cases c2 : 65536 < n2
  · clear hbad
    go_enter Try.func6, Try.ntmps6
    go_wp2_with (go_at_call 19; refine (bytes19_yes _ _ _ _ _ _ _ _ _ _ c0').mono ?_; rintro e w' ⟨rfl, rfl⟩)
    go_ret
    exact ⟨rfl, rfl⟩
  by_cases c3 : a0 < 1
  · clear hbad
    go_enter Try.func6, Try.ntmps6
    go_wp2_with (go_at_call 19; refine (bytes19_yes _ _ _ _ _ _ _ _ _ _ c0').mono ?_; rintro e w' ⟨rfl, rfl⟩)
    go_ret
    exact ⟨rfl, rfl⟩
  by_cases c4 : a1 < 1
  · clear hbad
    go_enter Try.func6, Try.ntmps6
    go_wp2_with (go_at_call 19; refine (bytes19_yes _ _ _ _ _ _ _ _ _ _ c0').mono ?_; rintro e w' ⟨rfl, rfl⟩)
    go_ret
    exact ⟨rfl, rfl⟩
  by_cases c5 : 65536 < a1
  · clear hbad
    go_enter Try.func6, Try.ntmps6
    go_wp2_with (go_at_call 19; refine (bytes19_yes _ _ _ _ _ _ _ _ _ _ c0').mono ?_; rintro e w' ⟨rfl, rfl⟩)
    go_ret
    exact ⟨rfl, rfl⟩
  by_cases c6 : a2 < 0
  · clear hbad
    go_enter Try.func6, Try.ntmps6
    go_wp2_with (go_at_call 19; refine (bytes19_yes _ _ _ _ _ _ _ _ _ _ c0').mono ?_; rintro e w' ⟨rfl, rfl⟩)
    go_ret
    exact ⟨rfl, rfl⟩
  by_cases c7 : a1 ≤ a2
  · clear hbad
    go_enter Try.func6, Try.ntmps6
    go_wp2_with (go_at_call 19; refine (bytes19_yes _ _ _ _ _ _ _ _ _ _ c0').mono ?_; rintro e w' ⟨rfl, rfl⟩)
    go_ret
    exact ⟨rfl, rfl⟩
  by_cases c8 : (n1 : Int) = a1
  · have c9 : ((n2 : Int) != a1) = true := by
      have : (n2 : Int) ≠ a1 := by omega
      simpa using this
    have c8' : ((n1 : Int) != a1) = false := by simpa using c8
    clear hbad
    go_enter Try.func6, Try.ntmps6
    go_wp2_with (go_at_call 19; refine (bytes19_yes _ _ _ _ _ _ _ _ _ _ c0').mono ?_; rintro e w' ⟨rfl, rfl⟩)
    go_ret
    exact ⟨rfl, rfl⟩
  · have c8' : ((n1 : Int) != a1) = true := by simpa using c8
    clear hbad
    go_enter Try.func6, Try.ntmps6
    go_wp2_with (go_at_call 19; refine (bytes19_yes _ _ _ _ _ _ _ _ _ _ c0').mono ?_; rintro e w' ⟨rfl, rfl⟩)
    go_ret
    exact ⟨rfl, rfl⟩
end Go.Proofs.Qxb6600850a
