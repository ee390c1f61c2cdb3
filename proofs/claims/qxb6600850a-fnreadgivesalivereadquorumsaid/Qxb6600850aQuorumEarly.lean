/- FnReadGivesALiveReadQuorum (function 7): the inputs of which the law says nothing. -/
import Derived.Test.Qxb6600850aQuorum
namespace Go.Proofs.Qxb6600850a
open Go.RowKit
set_option linter.unusedVariables false

set_option maxRecDepth 100000 in
set_option maxHeartbeats 2000000 in
theorem quorum_early (a0 a1 a2 : Int) (a : Option Addr) (len cap : Nat) (b : Bool) (w : World) (hm : len ≤ 9223372036854775807)
    (hbad : 65536 < len ∨ a0 < 1 ∨ a1 < 1 ∨ 65536 < a1 ∨ a2 < 0 ∨ a1 ≤ a2 ∨ (len : Int) ≠ a1) :
    Calls Try.prog 7 #[.int .i64 a0, .int .i64 a1, .int .i64 a2, .slice a len cap, .bool b] w fun e w' => e = .returned (.bool true) ∧ w = w' := by
  by_cases c1 : 1048576 < len
  · clear hbad
    go_enter Try.func7, Try.ntmps7
    go_wp2_with (go_at_call 23; refine (bytes23_no _ _ _ _ _ _ _ _ c1).mono ?_; rintro e w' ⟨rfl, rfl⟩)
    go_ret
    exact ⟨rfl, rfl⟩
  have c1' : len ≤ 1048576 := by omega
  by_cases c2 : 65536 < len
  · clear hbad
    go_enter Try.func7, Try.ntmps7
    go_wp2_with (go_at_call 23; refine (bytes23_yes _ _ _ _ _ _ _ _ c1').mono ?_; rintro e w' ⟨rfl, rfl⟩)
    go_ret
    exact ⟨rfl, rfl⟩
  by_cases c3 : a0 < 1
  · clear hbad
    go_enter Try.func7, Try.ntmps7
    go_wp2_with (go_at_call 23; refine (bytes23_yes _ _ _ _ _ _ _ _ c1').mono ?_; rintro e w' ⟨rfl, rfl⟩)
    go_ret
    exact ⟨rfl, rfl⟩
  by_cases c4 : a1 < 1
  · clear hbad
    go_enter Try.func7, Try.ntmps7
    go_wp2_with (go_at_call 23; refine (bytes23_yes _ _ _ _ _ _ _ _ c1').mono ?_; rintro e w' ⟨rfl, rfl⟩)
    go_ret
    exact ⟨rfl, rfl⟩
  by_cases c5 : 65536 < a1
  · clear hbad
    go_enter Try.func7, Try.ntmps7
    go_wp2_with (go_at_call 23; refine (bytes23_yes _ _ _ _ _ _ _ _ c1').mono ?_; rintro e w' ⟨rfl, rfl⟩)
    go_ret
    exact ⟨rfl, rfl⟩
  by_cases c6 : a2 < 0
  · clear hbad
    go_enter Try.func7, Try.ntmps7
    go_wp2_with (go_at_call 23; refine (bytes23_yes _ _ _ _ _ _ _ _ c1').mono ?_; rintro e w' ⟨rfl, rfl⟩)
    go_ret
    exact ⟨rfl, rfl⟩
  by_cases c7 : a1 ≤ a2
  · clear hbad
    go_enter Try.func7, Try.ntmps7
    go_wp2_with (go_at_call 23; refine (bytes23_yes _ _ _ _ _ _ _ _ c1').mono ?_; rintro e w' ⟨rfl, rfl⟩)
    go_ret
    exact ⟨rfl, rfl⟩
  have c10 : ((len : Int) != a1) = true := by
    have : (len : Int) ≠ a1 := by omega
    simpa using this
  clear hbad
  go_enter Try.func7, Try.ntmps7
  go_wp2_with (go_at_call 23; refine (bytes23_yes _ _ _ _ _ _ _ _ c1').mono ?_; rintro e w' ⟨rfl, rfl⟩)
  go_ret
  exact ⟨rfl, rfl⟩
end Go.Proofs.Qxb6600850a
