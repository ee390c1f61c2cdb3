/- FnMatchesLayoutItselfAndLiteralLayoutsExactly (function 5): the walk. -/
import Derived.Test.Qxb6602618aMatches
namespace Go.Proofs.Qxb6602618a
open Go.RowKit
set_option linter.unusedVariables false

set_option maxHeartbeats 400000 in
theorem bytes_yes (a b : ByteArray) (w : World) (h : a.size + b.size ≤ 1048576) : Calls Try.prog 12 #[.string a, .string b] w fun e w' => e = .returned (.bool true) ∧ w = w' := by
  go_enter Try.func12, Try.ntmps12
  go_wp2
  go_ret
  exact ⟨rfl, rfl⟩

set_option maxHeartbeats 400000 in
theorem bytes_no (a b : ByteArray) (w : World) (ha : a.size ≤ 9223372036854775807) (hb : b.size ≤ 9223372036854775807) (h : 1048576 < a.size + b.size) : Calls Try.prog 12 #[.string a, .string b] w fun e w' => e = .returned (.bool false) ∧ w = w' := by
  by_cases h1 : 1048576 < a.size
  · go_enter Try.func12, Try.ntmps12
    go_wp2
    go_ret
    exact ⟨rfl, rfl⟩
  · by_cases h2 : 1048576 < b.size
    · go_enter Try.func12, Try.ntmps12
      go_wp2
      go_ret
      exact ⟨rfl, rfl⟩
    · go_enter Try.func12, Try.ntmps12
      go_wp2
      go_ret
      exact ⟨rfl, rfl⟩

theorem okB_self (c : Nat) : okB c c = true := by
  unfold okB
  by_cases h1 : c = 48
  · simp [h1]
  · by_cases h2 : c = 84
    · simp [h2]
    · simp [h1, h2]

theorem mat_self (l : ByteArray) : matB l l = true := mat_yes rfl (fun i _ => okB_self _)

theorem okB_lit {c y : Nat} (h1 : y ≠ 48) (h2 : y ≠ 84) (h : okB c y = true) : c = y := by
  unfold okB at h
  rw [if_neg h1, if_neg h2] at h
  simpa using h

/-- A layout without a wild card matches its own text and no other. -/
theorem mat_lit (t l : ByteArray) (hw : wildB l = false) : (matB t l == (t.toList == l.toList)) = true := by
  have hb : ∀ k, k < l.size → byteAt l k ≠ 48 ∧ byteAt l k ≠ 84 := by
    intro k hk
    unfold wildB at hw
    rw [List.any_eq_false] at hw
    have := hw k (by simpa using hk)
    simpa using this
  rw [ByteArray.toList_eq, ByteArray.toList_eq]
  by_cases hm : matB t l = true
  · have hd : t.data.toList = l.data.toList := by
      unfold matB at hm
      rw [Bool.and_eq_true, List.all_eq_true] at hm
      obtain ⟨h1, h2⟩ := hm
      have hs : t.data.size = l.data.size := by simpa using h1
      apply List.ext_getElem
      · simpa using hs
      · intro i hi1 hi2
        have hi : i < l.size := by simpa using hi2
        have hit : i < t.size := by have : i < t.data.size := by simpa using hi1
                                    exact this
        have := okB_lit (hb i hi).1 (hb i hi).2 (h2 i (by simpa using hi))
        rw [← byteAt_eq t i hit, ← byteAt_eq l i hi] at this
        have h3 : t[i] = l[i] := UInt8.toNat_inj.1 this
        have h4 : t.data[i] = l.data[i] := h3
        simpa using h4
    rw [hm, hd]
    simp
  · have hm' : matB t l = false := by simpa using hm
    rw [hm']
    have hne : ¬ t.data.toList = l.data.toList := by
      intro e
      have : t = l := by
        cases t; cases l
        simp at e
        exact congrArg _ e
      subst this
      exact hm (mat_self t)
    simp only [beq_iff_eq]
    symm
    simpa using hne

set_option maxRecDepth 100000 in
set_option maxHeartbeats 1000000 in
theorem law_main (t l : ByteArray) (w : World) (ht : t.size ≤ 524288) (hl : l.size ≤ 524288) (hsum : t.size + l.size ≤ 1048576) :
    Calls Try.prog 5 #[.string t, .string l] w fun e w' => e = .returned (.bool true) ∧ w = w' := by
  by_cases hw : wildB l = true
  · have HW : Hid (wildB l = true) := hw
    clear hw
    go_enter Try.func5, Try.ntmps5
    go_wp2_with (first | (go_at_call 12; refine (bytes_yes _ _ _ hsum).mono ?_; rintro e w' ⟨rfl, rfl⟩) | (go_at_call 11; refine (zzMatches_any l l _ (by omega) (by omega)).mono ?_; rintro e w' ⟨rfl, rfl⟩; rw [mat_self]) | (go_at_call 13; refine (wild_any l _ (by omega)).mono ?_; rintro e w' ⟨rfl, rfl⟩; rw [HW.out]))
    go_ret
    exact ⟨rfl, rfl⟩
  · have hw' : wildB l = false := by simpa using hw
    have HW : Hid (wildB l = false) := hw'
    clear hw hw'
    go_enter Try.func5, Try.ntmps5
    go_wp2_with (first | (go_at_call 12; refine (bytes_yes _ _ _ hsum).mono ?_; rintro e w' ⟨rfl, rfl⟩) | (go_at_call 13; refine (wild_any l _ (by omega)).mono ?_; rintro e w' ⟨rfl, rfl⟩; rw [HW.out]))
    refine (zzMatches_any l l _ (by omega) (by omega)).mono ?_
    rintro e w' ⟨rfl, rfl⟩
    rw [mat_self]
    go_wp2_with (go_at_call 13; refine (wild_any l _ (by omega)).mono ?_; rintro e w' ⟨rfl, rfl⟩; rw [HW.out])
    refine (zzMatches_any t l _ (by omega) (by omega)).mono ?_
    rintro e w' ⟨rfl, rfl⟩
    go_wp2
    go_ret
    exact ⟨ret_bool (mat_lit t l HW.out), rfl⟩

set_option maxRecDepth 100000 in
set_option maxHeartbeats 1000000 in
theorem law_any (t l : ByteArray) (w : World) (ht : t.size ≤ 9223372036854775807) (hl : l.size ≤ 9223372036854775807) :
    Calls Try.prog 5 #[.string t, .string l] w fun e w' => e = .returned (.bool true) ∧ w = w' := by
  by_cases hsum : 1048576 < t.size + l.size
  · go_enter Try.func5, Try.ntmps5
    go_wp2_with (go_at_call 12; refine (bytes_no _ _ _ ht hl hsum).mono ?_; rintro e w' ⟨rfl, rfl⟩)
    go_ret
    exact ⟨rfl, rfl⟩
  · have hsum' : t.size + l.size ≤ 1048576 := by omega
    by_cases h1 : 524288 < t.size
    · go_enter Try.func5, Try.ntmps5
      go_wp2_with (go_at_call 12; refine (bytes_yes _ _ _ hsum').mono ?_; rintro e w' ⟨rfl, rfl⟩)
      go_ret
      exact ⟨rfl, rfl⟩
    · by_cases h2 : 524288 < l.size
      · go_enter Try.func5, Try.ntmps5
        go_wp2_with (go_at_call 12; refine (bytes_yes _ _ _ hsum').mono ?_; rintro e w' ⟨rfl, rfl⟩)
        go_ret
        exact ⟨rfl, rfl⟩
      · exact law_main t l w (by omega) (by omega) hsum'
end Go.Proofs.Qxb6602618a
