/- matches (21), isDigit (23), hasWildcard (13), ZZmatches (11). -/
import Derived.Test.Qxb6602618aProg
import Derived.WalkKit
import Derived.WalkSpells
namespace Go.Proofs.Qxb6602618a
open Go.RowKit
set_option linter.unusedVariables false

/-- Does the byte c fit the layout's byte l? -/
def okB (c l : Nat) : Bool := if l = 48 then decide (48 ≤ c ∧ c ≤ 57) else if l = 84 then decide (c = 84 ∨ c = 116) else decide (c = l)

def byteAt (t : ByteArray) (i : Nat) : Nat := (t.data.getD i 0).toNat

theorem byteAt_eq (t : ByteArray) (i : Nat) (h : i < t.size) : t[i].toNat = byteAt t i := by
  unfold byteAt
  have h' : i < t.data.size := h
  rw [Array.getD_eq_getD_getElem?, Array.getElem?_eq_getElem h']
  rfl

theorem byteAt_lt (t : ByteArray) (i : Nat) : byteAt t i < 256 := UInt8.toNat_lt _

def matB (t l : ByteArray) : Bool := decide (t.size = l.size) && (List.range l.size).all fun i => okB (byteAt t i) (byteAt l i)

theorem mat_no {t l : ByteArray} {k : Nat} (hk : k < l.size) (h : okB (byteAt t k) (byteAt l k) = false) : matB t l = false := by
  unfold matB
  rw [Bool.and_eq_false_iff]
  right
  rw [List.all_eq_false]
  exact ⟨k, by simpa using hk, by simp [h]⟩

theorem mat_yes {t l : ByteArray} (hs : t.size = l.size) (h : ∀ i, i < l.size → okB (byteAt t i) (byteAt l i) = true) : matB t l = true := by
  unfold matB
  rw [Bool.and_eq_true, List.all_eq_true]
  exact ⟨by simpa using hs, fun i hi => h i (by simpa using hi)⟩

theorem mat_size {t l : ByteArray} (hs : t.size ≠ l.size) : matB t l = false := by
  unfold matB
  simp [hs]

theorem ret_bool {a b : Bool} (h : a = b) : Ending.returned (.bool a) = .returned (.bool b) := by rw [h]

/-- An ASCII digit. -/
def digB (c : Nat) : Bool := decide (48 ≤ c ∧ c ≤ 57)

set_option maxHeartbeats 400000 in
theorem isDigit_any (c : Nat) (w : World) : Calls Try.prog 23 #[.int .u8 c] w fun e w' => e = .returned (.bool (digB c)) ∧ w = w' := by
  by_cases h1 : 48 ≤ c
  · by_cases h2 : c ≤ 57
    · have H : Hid (digB c = true) := by show digB c = true; simp [digB, h1, h2]
      go_enter Try.func23, Try.ntmps23
      go_wp2
      go_ret
      exact ⟨ret_bool (by rw [H.out]; simp; omega), rfl⟩
    · have H : Hid (digB c = false) := by show digB c = false; simp [digB]; omega
      go_enter Try.func23, Try.ntmps23
      go_wp2
      go_ret
      exact ⟨ret_bool (by rw [H.out]; simp; omega), rfl⟩
  · have H : Hid (digB c = false) := by show digB c = false; simp [digB]; omega
    go_enter Try.func23, Try.ntmps23
    go_wp2
    go_ret
    exact ⟨ret_bool (by rw [H.out]), rfl⟩

set_option maxHeartbeats 1000000 in
theorem matches_any (t l : ByteArray) (w : World) (ht : t.size ≤ 1048576) (hl : l.size ≤ 1048576) :
    Calls Try.prog 21 #[.string t, .string l] w fun e w' => e = .returned (.bool (matB t l)) ∧ w = w' := by
  by_cases hs : t.size = l.size
  · have hne : ((t.size : Int) != (l.size : Int)) = false := by simp; omega
    have HS : Hid (t.size = l.size) := hs
    obtain ⟨n, hn⟩ : ∃ n, l.size = n := ⟨_, rfl⟩
    have htn : t.size = n := by omega
    clear hs
    go_enter Try.func21, Try.ntmps21
    go_wp2
    go_loop [14] (fun i => ∃ k : Nat, k ≤ n ∧ i = .int .i64 k ∧ Hid (∀ i, i < k → okB (byteAt t i) (byteAt l i) = true)) (fun i => n - (intOf i).toNat)
    case atStart => exact ⟨0, Nat.zero_le _, rfl, fun i h => by omega⟩
    case round =>
      obtain ⟨k, hk, rfl, hok⟩ := hrel
      by_cases hlt : k < n
      · have hk1 : k < t.size := by omega
        have hk2 : k < l.size := by omega
        have e1 := byteAt_eq t k hk1
        have e2 := byteAt_eq l k hk2
        obtain ⟨c, hc⟩ : ∃ c, byteAt t k = c := ⟨_, rfl⟩
        obtain ⟨y, hy⟩ : ∃ y, byteAt l k = y := ⟨_, rfl⟩
        rw [hc] at e1
        rw [hy] at e2
        have HC : Hid (byteAt t k = c) := hc
        have HY : Hid (byteAt l k = y) := hy
        have hno : okB c y = false → matB t l = false := fun h => mat_no hk2 (by rw [HC.out, HY.out]; exact h)
        have hyes : okB c y = true → ∀ i, i < k + 1 → okB (byteAt t i) (byteAt l i) = true := fun h i hi => by
          by_cases e : i = k
          · subst e; rw [HC.out, HY.out]; exact h
          · exact hok.out i (by omega)
        have HN : Hid (okB c y = false → matB t l = false) := hno
        have HYs : Hid (okB c y = true → ∀ i, i < k + 1 → okB (byteAt t i) (byteAt l i) = true) := hyes
        clear hc hy hno hyes hok
        by_cases y48 : y = 48
        · have b1 : ((y : Int) == 48) = true := by simp; omega
          by_cases dg : digB c = true
          · have HO : Hid (okB c y = true) := by show okB c y = true; unfold okB; rw [if_pos y48]; exact dg
            have HD : Hid (digB c = true) := dg
            clear y48 dg
            go_wp2_with (go_at_call 23; refine (isDigit_any c _).mono ?_; rintro e w' ⟨rfl, rfl⟩; rw [HD.out])
            go_round
            case rel => exact ⟨k + 1, by omega, by go_num, HYs.out HO.out⟩
            case measure => simp [intOf]; omega
          · have dg' : digB c = false := by simpa using dg
            have HM : Hid (matB t l = false) := HN.out (by unfold okB; rw [if_pos y48]; exact dg')
            have HD : Hid (digB c = false) := dg'
            clear y48 dg dg'
            go_wp2_with (go_at_call 23; refine (isDigit_any c _).mono ?_; rintro e w' ⟨rfl, rfl⟩; rw [HD.out])
            go_ret
            exact ⟨ret_bool HM.out.symm, rfl⟩
        · have b1 : ((y : Int) == 48) = false := by simp; omega
          by_cases y84 : y = 84
          · have b2 : ((y : Int) == 84) = true := by simp; omega
            by_cases c84 : c = 84
            · have HO : Hid (okB c y = true) := by show okB c y = true; unfold okB; rw [if_neg y48, if_pos y84]; simp [c84]
              have b3 : ((c : Int) != 84) = false := by simp; omega
              clear y48 y84 c84
              go_wp2
              go_round
              case rel => exact ⟨k + 1, by omega, by go_num, HYs.out HO.out⟩
              case measure => simp [intOf]; omega
            · have b3 : ((c : Int) != 84) = true := by simp; omega
              by_cases c116 : c = 116
              · have HO : Hid (okB c y = true) := by show okB c y = true; unfold okB; rw [if_neg y48, if_pos y84]; simp [c116]
                have b4 : ((c : Int) != 116) = false := by simp; omega
                clear y48 y84 c84 c116
                go_wp2
                go_round
                case rel => exact ⟨k + 1, by omega, by go_num, HYs.out HO.out⟩
                case measure => simp [intOf]; omega
              · have HM : Hid (matB t l = false) := HN.out (by unfold okB; rw [if_neg y48, if_pos y84]; simp [c84, c116])
                have b4 : ((c : Int) != 116) = true := by simp; omega
                clear y48 y84 c84 c116
                go_wp2
                go_ret
                exact ⟨ret_bool HM.out.symm, rfl⟩
          · have b2 : ((y : Int) == 84) = false := by simp; omega
            by_cases cy : c = y
            · have HO : Hid (okB c y = true) := by show okB c y = true; unfold okB; rw [if_neg y48, if_neg y84]; simp [cy]
              have b3 : ((c : Int) != (y : Int)) = false := by simp; omega
              clear y48 y84 cy
              go_wp2
              go_round
              case rel => exact ⟨k + 1, by omega, by go_num, HYs.out HO.out⟩
              case measure => simp [intOf]; omega
            · have HM : Hid (matB t l = false) := HN.out (by unfold okB; rw [if_neg y48, if_neg y84]; simp [cy])
              have b3 : ((c : Int) != (y : Int)) = true := by simp; omega
              clear y48 y84 cy
              go_wp2
              go_ret
              exact ⟨ret_bool HM.out.symm, rfl⟩
      · have HM : Hid (matB t l = true) := mat_yes HS.out (fun i hi => hok.out i (by omega))
        go_wp2
        go_ret
        exact ⟨ret_bool HM.out.symm, rfl⟩
  · have hne : ((t.size : Int) != (l.size : Int)) = true := by simp; omega
    have HM : Hid (matB t l = false) := mat_size hs
    clear hs
    go_enter Try.func21, Try.ntmps21
    go_wp2
    go_ret
    exact ⟨ret_bool HM.out.symm, rfl⟩

set_option maxHeartbeats 400000 in
theorem zzMatches_any (t l : ByteArray) (w : World) (ht : t.size ≤ 1048576) (hl : l.size ≤ 1048576) :
    Calls Try.prog 11 #[.string t, .string l] w fun e w' => e = .returned (.bool (matB t l)) ∧ w = w' := by
  go_enter Try.func11, Try.ntmps11
  go_wp2_with (go_at_call 21; refine (matches_any t l _ ht hl).mono ?_; rintro e w' ⟨rfl, rfl⟩)
  go_ret
  exact ⟨rfl, rfl⟩

/-- Has the layout a wild card? -/
def wildB (l : ByteArray) : Bool := (List.range l.size).any fun i => decide (byteAt l i = 48 ∨ byteAt l i = 84)

set_option maxHeartbeats 1000000 in
theorem wild_any (l : ByteArray) (w : World) (hl : l.size ≤ 1048576) :
    Calls Try.prog 13 #[.string l] w fun e w' => e = .returned (.bool (wildB l)) ∧ w = w' := by
  obtain ⟨n, hn⟩ : ∃ n, l.size = n := ⟨_, rfl⟩
  have hyes : ∀ k, k < n → (byteAt l k = 48 ∨ byteAt l k = 84) → wildB l = true := fun k hk h => by
    unfold wildB
    rw [List.any_eq_true]
    exact ⟨k, by simp; omega, by simpa using h⟩
  have hnone : (∀ k, k < n → ¬ (byteAt l k = 48 ∨ byteAt l k = 84)) → wildB l = false := fun h => by
    unfold wildB
    rw [List.any_eq_false]
    intro k hk
    simpa using h k (by simp at hk; omega)
  have HYes : Hid (∀ k, k < n → (byteAt l k = 48 ∨ byteAt l k = 84) → wildB l = true) := hyes
  have HNo : Hid ((∀ k, k < n → ¬ (byteAt l k = 48 ∨ byteAt l k = 84)) → wildB l = false) := hnone
  clear hyes hnone
  go_enter Try.func13, Try.ntmps13
  go_wp2
  go_loop [3] (fun i => ∃ k : Nat, k ≤ n ∧ i = .int .i64 k ∧ Hid (∀ i, i < k → ¬ (byteAt l i = 48 ∨ byteAt l i = 84))) (fun i => n - (intOf i).toNat)
  case atStart => exact ⟨0, Nat.zero_le _, rfl, fun i h => by omega⟩
  case round =>
    obtain ⟨k, hk, rfl, hok⟩ := hrel
    by_cases hlt : k < n
    · have hk2 : k < l.size := by omega
      have e2 := byteAt_eq l k hk2
      obtain ⟨y, hy⟩ : ∃ y, byteAt l k = y := ⟨_, rfl⟩
      rw [hy] at e2
      have HY : Hid (byteAt l k = y) := hy
      clear hy
      by_cases y48 : y = 48
      · have b1 : ((y : Int) == 48) = true := by simp; omega
        have HM : Hid (wildB l = true) := HYes.out k hlt (by rw [HY.out]; exact .inl y48)
        clear y48
        go_wp2
        go_ret
        exact ⟨ret_bool HM.out.symm, rfl⟩
      · have b1 : ((y : Int) == 48) = false := by simp; omega
        by_cases y84 : y = 84
        · have b2 : ((y : Int) == 84) = true := by simp; omega
          have HM : Hid (wildB l = true) := HYes.out k hlt (by rw [HY.out]; exact .inr y84)
          clear y48 y84
          go_wp2
          go_ret
          exact ⟨ret_bool HM.out.symm, rfl⟩
        · have b2 : ((y : Int) == 84) = false := by simp; omega
          have HO : Hid (∀ i, i < k + 1 → ¬ (byteAt l i = 48 ∨ byteAt l i = 84)) := by
            intro i hi
            by_cases e : i = k
            · subst e; rw [HY.out]; omega
            · exact hok.out i (by omega)
          clear y48 y84 hok
          go_wp2
          go_round
          case rel => exact ⟨k + 1, by omega, by go_num, HO⟩
          case measure => simp [intOf]; omega
    · have HM : Hid (wildB l = false) := HNo.out (fun i hi => hok.out i (by omega))
      go_wp2
      go_ret
      exact ⟨ret_bool HM.out.symm, rfl⟩
end Go.Proofs.Qxb6602618a
