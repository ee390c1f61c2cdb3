/- isDigits (16), ZZIsDigits (13), isDigitByte (12), the bound (11), and the law FnIsDigitsMatchesByteClassModel (5). -/
import Derived.Test.Qxb6602662aProg
import Derived.WalkKit
import Derived.WalkSpells
namespace Go.Proofs.Qxb6602662a
open Go.RowKit
set_option linter.unusedVariables false

def byteAt (t : ByteArray) (i : Nat) : Nat := (t.data.getD i 0).toNat

theorem byteAt_eq (t : ByteArray) (i : Nat) (h : i < t.size) : t[i].toNat = byteAt t i := by
  unfold byteAt
  have h' : i < t.data.size := h
  rw [Array.getD_eq_getD_getElem?, Array.getElem?_eq_getElem h']
  rfl

theorem byteAt_lt (t : ByteArray) (i : Nat) : byteAt t i < 256 := UInt8.toNat_lt _

theorem ret_bool {a b : Bool} (h : a = b) : Ending.returned (.bool a) = .returned (.bool b) := by rw [h]

/-- An ASCII digit. -/
def digB (c : Nat) : Bool := decide (48 ≤ c ∧ c ≤ 57)

theorem digB_no {c : Nat} (h : c < 48 ∨ 57 < c) : digB c = false := by unfold digB; simp; omega
theorem digB_yes {c : Nat} (h1 : 48 ≤ c) (h2 : c ≤ 57) : digB c = true := by unfold digB; simp; omega

/-- Not empty, and digits all. -/
def allDig (s : ByteArray) : Bool := decide (0 < s.size) && (List.range s.size).all fun i => digB (byteAt s i)

theorem all_no {s : ByteArray} {k : Nat} (hk : k < s.size) (h : digB (byteAt s k) = false) : allDig s = false := by
  unfold allDig
  rw [Bool.and_eq_false_iff]
  right
  rw [List.all_eq_false]
  exact ⟨k, by simpa using hk, by simp [h]⟩

theorem all_yes {s : ByteArray} (h0 : 0 < s.size) (h : ∀ i, i < s.size → digB (byteAt s i) = true) : allDig s = true := by
  unfold allDig
  rw [Bool.and_eq_true, List.all_eq_true]
  exact ⟨by simpa using h0, fun i hi => h i (by simpa using hi)⟩

set_option maxHeartbeats 1000000 in
theorem isDigitByte_any (c : Nat) (w : World) : Calls Try.prog 12 #[.int .u8 c] w fun e w' => e = .returned (.bool (digB c)) ∧ w = w' := by
  by_cases h : 48 ≤ c ∧ c ≤ 57
  · have H : Hid (digB c = true) := digB_yes h.1 h.2
    rcases (show c = 48 ∨ c = 49 ∨ c = 50 ∨ c = 51 ∨ c = 52 ∨ c = 53 ∨ c = 54 ∨ c = 55 ∨ c = 56 ∨ c = 57 by omega) with rfl | rfl | rfl | rfl | rfl | rfl | rfl | rfl | rfl | rfl
    all_goals
      clear h
      go_enter Try.func12, Try.ntmps12
      go_wp2
      go_ret
      exact ⟨ret_bool H.out.symm, rfl⟩
  · have H : Hid (digB c = false) := digB_no (by omega)
    have b0 : ((c : Int) == 48) = false := by simp; omega
    have b1 : ((c : Int) == 49) = false := by simp; omega
    have b2 : ((c : Int) == 50) = false := by simp; omega
    have b3 : ((c : Int) == 51) = false := by simp; omega
    have b4 : ((c : Int) == 52) = false := by simp; omega
    have b5 : ((c : Int) == 53) = false := by simp; omega
    have b6 : ((c : Int) == 54) = false := by simp; omega
    have b7 : ((c : Int) == 55) = false := by simp; omega
    have b8 : ((c : Int) == 56) = false := by simp; omega
    have b9 : ((c : Int) == 57) = false := by simp; omega
    clear h
    go_enter Try.func12, Try.ntmps12
    go_wp2
    go_ret
    exact ⟨ret_bool H.out.symm, rfl⟩

set_option maxHeartbeats 1000000 in
theorem isDigits_any (s : ByteArray) (w : World) (hs : s.size ≤ 1048576) : Calls Try.prog 16 #[.string s] w fun e w' => e = .returned (.bool (allDig s)) ∧ w = w' := by
  by_cases h0 : s.size = 0
  · have HM : Hid (allDig s = false) := by show allDig s = false; unfold allDig; simp [h0]
    have he : s.toList.isEmpty = true := by
      rw [ByteArray.toList_eq, List.isEmpty_iff]
      exact List.eq_nil_of_length_eq_zero (by rw [Array.length_toList]; exact h0)
    go_enter Try.func16, Try.ntmps16
    go_wp2
    go_ret
    exact ⟨ret_bool HM.out.symm, rfl⟩
  · have he : s.toList.isEmpty = false := by
      rw [ByteArray.toList_eq, List.isEmpty_eq_false_iff]
      intro e
      have := congrArg List.length e
      rw [Array.length_toList] at this
      exact h0 this
    obtain ⟨n, hn⟩ : ∃ n, s.size = n := ⟨_, rfl⟩
    have hpos : 0 < n := by omega
    clear h0
    go_enter Try.func16, Try.ntmps16
    go_wp2
    go_loop [3] (fun i => ∃ k : Nat, k ≤ n ∧ i = .int .i64 k ∧ Hid (∀ i, i < k → digB (byteAt s i) = true)) (fun i => n - (intOf i).toNat)
    case atStart => exact ⟨0, Nat.zero_le _, rfl, fun i h => by omega⟩
    case round =>
      obtain ⟨k, hk, rfl, hok⟩ := hrel
      by_cases hlt : k < n
      · have hk2 : k < s.size := by omega
        have e2 := byteAt_eq s k hk2
        obtain ⟨y, hy⟩ : ∃ y, byteAt s k = y := ⟨_, rfl⟩
        rw [hy] at e2
        have HY : Hid (byteAt s k = y) := hy
        clear hy
        by_cases y1 : y < 48
        · have HM : Hid (allDig s = false) := all_no hk2 (by rw [HY.out]; exact digB_no (.inl y1))
          go_wp2
          go_ret
          exact ⟨ret_bool HM.out.symm, rfl⟩
        · by_cases y2 : 57 < y
          · have HM : Hid (allDig s = false) := all_no hk2 (by rw [HY.out]; exact digB_no (.inr y2))
            go_wp2
            go_ret
            exact ⟨ret_bool HM.out.symm, rfl⟩
          · have HO : Hid (∀ i, i < k + 1 → digB (byteAt s i) = true) := by
              intro i hi
              by_cases e : i = k
              · subst e; rw [HY.out]; exact digB_yes (by omega) (by omega)
              · exact hok.out i (by omega)
            clear hok
            go_wp2
            go_round
            case rel => exact ⟨k + 1, by omega, by go_num, HO⟩
            case measure => simp [intOf]; omega
      · have HM : Hid (allDig s = true) := all_yes (by omega) (fun i hi => hok.out i (by omega))
        go_wp2
        go_ret
        exact ⟨ret_bool HM.out.symm, rfl⟩

set_option maxHeartbeats 400000 in
theorem zzIsDigits_any (s : ByteArray) (w : World) (hs : s.size ≤ 1048576) : Calls Try.prog 13 #[.string s] w fun e w' => e = .returned (.bool (allDig s)) ∧ w = w' := by
  go_enter Try.func13, Try.ntmps13
  go_wp2_with (go_at_call 16; refine (isDigits_any s _ hs).mono ?_; rintro e w' ⟨rfl, rfl⟩)
  go_ret
  exact ⟨rfl, rfl⟩

set_option maxHeartbeats 400000 in
theorem bytes11_yes (a : ByteArray) (w : World) (h : a.size ≤ 1048576) : Calls Try.prog 11 #[.string a] w fun e w' => e = .returned (.bool true) ∧ w = w' := by
  go_enter Try.func11, Try.ntmps11
  go_wp2
  go_ret
  exact ⟨rfl, rfl⟩

set_option maxHeartbeats 400000 in
theorem bytes11_no (a : ByteArray) (w : World) (h : 1048576 < a.size) : Calls Try.prog 11 #[.string a] w fun e w' => e = .returned (.bool false) ∧ w = w' := by
  go_enter Try.func11, Try.ntmps11
  go_wp2
  go_ret
  exact ⟨rfl, rfl⟩

/-- How many of the first k bytes are digits. -/
def cntD (s : ByteArray) (k : Nat) : Nat := ((List.range k).filter fun i => digB (byteAt s i)).length

theorem cntD_succ (s : ByteArray) (k : Nat) : cntD s (k + 1) = cntD s k + if digB (byteAt s k) then 1 else 0 := by
  unfold cntD
  rw [List.range_succ, List.filter_append]
  by_cases e : digB (byteAt s k) <;> simp [e]

theorem cntD_le (s : ByteArray) (k : Nat) : cntD s k ≤ k := by
  unfold cntD
  exact Nat.le_trans (List.length_filter_le _ _) (by simp)

theorem cntD_full (s : ByteArray) (h0 : 0 < s.size) : allDig s = decide (cntD s s.size = s.size) := by
  unfold allDig cntD
  have h1 : decide (0 < s.size) = true := by simpa using h0
  rw [h1, Bool.true_and, Bool.eq_iff_iff, decide_eq_true_eq, List.all_eq_true]
  have h2 := List.length_filter_eq_length_iff (p := fun i => digB (byteAt s i)) (l := List.range s.size)
  rw [List.length_range] at h2
  exact h2.symm

set_option maxRecDepth 100000 in
set_option maxHeartbeats 1000000 in
theorem digits_law (s : ByteArray) (w : World) (hs : s.size ≤ 9223372036854775807) : Calls Try.prog 5 #[.string s] w fun e w' => e = .returned (.bool true) ∧ w = w' := by
  by_cases c1 : 1048576 < s.size
  · go_enter Try.func5, Try.ntmps5
    go_wp2_with (go_at_call 11; refine (bytes11_no _ _ c1).mono ?_; rintro e w' ⟨rfl, rfl⟩)
    go_ret
    exact ⟨rfl, rfl⟩
  have c1' : s.size ≤ 1048576 := by omega
  by_cases c2 : 65536 < s.size
  · go_enter Try.func5, Try.ntmps5
    go_wp2_with (go_at_call 11; refine (bytes11_yes _ _ c1').mono ?_; rintro e w' ⟨rfl, rfl⟩)
    go_ret
    exact ⟨rfl, rfl⟩
  obtain ⟨n, hn⟩ : ∃ n, s.size = n := ⟨_, rfl⟩
  by_cases c3 : n = 0
  · have HM : Hid (allDig s = false) := by show allDig s = false; unfold allDig; simp [hn, c3]
    subst c3
    go_enter Try.func5, Try.ntmps5
    go_wp2_with (first | (go_at_call 11; refine (bytes11_yes _ _ c1').mono ?_; rintro e w' ⟨rfl, rfl⟩) | (go_at_call 13; refine (zzIsDigits_any s _ c1').mono ?_; rintro e w' ⟨rfl, rfl⟩; rw [HM.out]))
    go_ret
    exact ⟨rfl, rfl⟩
  · have HF : Hid (allDig s = decide (cntD s n = n)) := by
      have := cntD_full s (by omega)
      rw [hn] at this
      exact this
    have hpos : 0 < n := by omega
    clear c3
    go_enter Try.func5, Try.ntmps5
    go_wp2_with (go_at_call 11; refine (bytes11_yes _ _ c1').mono ?_; rintro e w' ⟨rfl, rfl⟩)
    go_loop [4, 5] (fun a i => ∃ k : Nat, k ≤ n ∧ i = .int .i64 k ∧ a = .int .i64 (cntD s k)) (fun _ i => n - (intOf i).toNat)
    case atStart => exact ⟨0, Nat.zero_le _, rfl, rfl⟩
    case round =>
      obtain ⟨k, hk, rfl, rfl⟩ := hrel
      have hcl := cntD_le s k
      by_cases hlt : k < n
      · have hk2 : k < s.size := by omega
        have e2 := byteAt_eq s k hk2
        have M : Hid (cntD s (k + 1) = cntD s k + if digB (byteAt s k) then 1 else 0) := cntD_succ s k
        obtain ⟨y, hy⟩ : ∃ y, byteAt s k = y := ⟨_, rfl⟩
        rw [hy] at e2 M
        clear hy
        by_cases dg : digB y = true
        · have M' : Hid (cntD s (k + 1) = cntD s k + 1) := by have := M.out; rw [if_pos dg] at this; exact this
          have HD : Hid (digB y = true) := dg
          clear dg M
          go_wp2_with (go_at_call 12; refine (isDigitByte_any y _).mono ?_; rintro e w' ⟨rfl, rfl⟩; rw [HD.out])
          go_round
          case rel => exact ⟨k + 1, by omega, by go_num, by rw [M'.out]; go_num⟩
          case measure => simp [intOf]; omega
        · have M' : Hid (cntD s (k + 1) = cntD s k) := by have := M.out; rw [if_neg dg] at this; exact this
          have HD : Hid (digB y = false) := by show digB y = false; simpa using dg
          clear dg M
          go_wp2_with (go_at_call 12; refine (isDigitByte_any y _).mono ?_; rintro e w' ⟨rfl, rfl⟩; rw [HD.out])
          go_round
          case rel => exact ⟨k + 1, by omega, by go_num, by rw [M'.out]⟩
          case measure => simp [intOf]; omega
      · obtain rfl : k = n := by omega
        obtain ⟨m, hm⟩ : ∃ m, cntD s k = m := ⟨_, rfl⟩
        rw [hm] at HF hcl ⊢
        clear hm
        by_cases e : m = k
        · have HM : Hid (allDig s = true) := by show allDig s = true; rw [HF.out]; simpa using e
          have b1 : ((m : Int) == (k : Int)) = true := by simp; omega
          clear e
          go_wp2_with (go_at_call 13; refine (zzIsDigits_any s _ c1').mono ?_; rintro e w' ⟨rfl, rfl⟩; rw [HM.out])
          go_ret
          exact ⟨rfl, rfl⟩
        · have HM : Hid (allDig s = false) := by show allDig s = false; rw [HF.out]; simpa using e
          have b1 : ((m : Int) == (k : Int)) = false := by simp; omega
          clear e
          go_wp2_with (go_at_call 13; refine (zzIsDigits_any s _ c1').mono ?_; rintro e w' ⟨rfl, rfl⟩; rw [HM.out])
          go_ret
          exact ⟨rfl, rfl⟩
end Go.Proofs.Qxb6602662a
