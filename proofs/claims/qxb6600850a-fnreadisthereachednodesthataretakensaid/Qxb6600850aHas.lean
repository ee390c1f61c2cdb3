/- slices.Contains (31), slices.Index (33), containsIntQB1 (21), at readable slices of positions. -/
import Derived.Test.Qxb6600850aModel
namespace Go.Proofs.Qxb6600850a
open Go.RowKit
set_option linter.unusedVariables false

/-- Is x among the positions L? -/
def hasB (L : List Nat) (x : Int) : Bool := L.any fun y => (y : Int) == x

theorem getD_lt {L : List Nat} {k : Nat} (hk : k < L.length) : L.getD k 0 = L[k] := by simp [List.getD, hk]

theorem hasB_yes {L : List Nat} {x : Int} {k : Nat} (hk : k < L.length) (h : ((L.getD k 0 : Nat) : Int) = x) : hasB L x = true := by
  unfold hasB
  rw [List.any_eq_true]
  refine ⟨L.getD k 0, ?_, by simpa using h⟩
  rw [getD_lt hk]
  exact List.getElem_mem hk

theorem hasB_no {L : List Nat} {x : Int} (h : ∀ j, j < L.length → ((L.getD j 0 : Nat) : Int) ≠ x) : hasB L x = false := by
  unfold hasB
  rw [List.any_eq_false]
  intro y hy
  obtain ⟨j, hj, rfl⟩ := List.mem_iff_getElem.1 hy
  have := h j hj
  rw [getD_lt hj] at this
  simpa using this

theorem hasB_iff {L : List Nat} {x : Nat} : hasB L (x : Int) = L.contains x := by
  unfold hasB
  rw [Bool.eq_iff_iff, List.any_eq_true, List.contains_iff_mem]
  constructor
  · rintro ⟨y, hy, e⟩
    have : y = x := by simp at e; omega
    exact this ▸ hy
  · intro h; exact ⟨x, h, by simp⟩

theorem ret_bool' {a b : Bool} (h : a = b) : Ending.returned (.bool a) = .returned (.bool b) := by rw [h]

set_option maxHeartbeats 400000 in
theorem index_nil (x : Int) (w : World) : Calls Try.prog 33 #[.slice none 0 0, .int .i64 x] w fun e w' => e = .returned (.int .i64 (-1)) ∧ w = w' := by
  go_enter Try.func33, Try.ntmps33
  go_wp2
  refine wp_loop_rounds 1 ?_
  rw [rounds_succ]
  go_wp2
  go_ret
  exact ⟨rfl, rfl⟩

set_option maxHeartbeats 400000 in
theorem index_some (g n cap : Nat) (L : List Nat) (x : Int) (w : World) (hn : L.length = n) (hn2 : n ≤ 65536) (hc : ∀ i, i < n → w.cell? ⟨g, i, none⟩ = some (.int .i64 (L.getD i 0 : Nat))) :
    Calls Try.prog 33 #[.slice (some ⟨g, 0, none⟩) n cap, .int .i64 x] w fun e w' => ∃ r : Int, e = .returned (.int .i64 r) ∧ ((0 ≤ r ∧ hasB L x = true) ∨ (r = -1 ∧ hasB L x = false)) ∧ w = w' := by
  have Hn : Hid (L.length = n) := hn
  clear hn
  go_enter Try.func33, Try.ntmps33
  go_wp2
  go_loop [8] (fun i => ∃ k : Nat, k ≤ n ∧ i = .int .i64 k ∧ Hid (∀ j, j < k → ((L.getD j 0 : Nat) : Int) ≠ x)) (fun i => n - (intOf i).toNat)
  case atStart => exact ⟨0, Nat.zero_le _, rfl, fun j hj => by omega⟩
  case round =>
    obtain ⟨k, hk, rfl, hno⟩ := hrel
    by_cases hlt : k < n
    · have hck := hc k hlt
      obtain ⟨y, hy⟩ : ∃ y, L.getD k 0 = y := ⟨_, rfl⟩
      rw [hy] at hck
      have Hy : Hid (L.getD k 0 = y) := hy
      clear hy hc
      by_cases e : x = (y : Int)
      · have e' : (x == (y : Int)) = true := by simpa using e
        have HY : Hid (hasB L x = true) := hasB_yes (k := k) (by rw [Hn.out]; exact hlt) (by rw [Hy.out]; exact e.symm)
        clear e
        go_wp2
        go_ret
        exact ⟨_, rfl, .inl ⟨by omega, HY.out⟩, rfl⟩
      · have e' : (x == (y : Int)) = false := by simpa using e
        have HN : Hid (∀ j, j < k + 1 → ((L.getD j 0 : Nat) : Int) ≠ x) := by
          intro j hj
          by_cases ej : j = k
          · subst ej; rw [Hy.out]; exact fun h => e h.symm
          · exact hno.out j (by omega)
        clear e
        go_wp2
        go_round
        case rel => exact ⟨k + 1, by omega, by go_num, HN⟩
        case measure => simp [intOf]; omega
    · have HY : Hid (hasB L x = false) := hasB_no (fun j hj => hno.out j (by have := Hn.out; omega))
      go_wp2
      go_ret
      exact ⟨_, rfl, .inr ⟨rfl, HY.out⟩, rfl⟩

set_option maxHeartbeats 400000 in
/-- slices.Contains. -/
theorem contains_any (u : Value) (B : Nat) (L : List Nat) (x : Int) (w : World) (hn2 : L.length ≤ 65536) (hu : IntsAt w B u L) :
    Calls Try.prog 31 #[u, .int .i64 x] w fun e w' => e = .returned (.bool (hasB L x)) ∧ w = w' := by
  rcases hu with ⟨hL, rfl⟩ | ⟨hL, g, cap, rfl, _, _, hc⟩
  · subst hL
    go_enter Try.func31, Try.ntmps31
    go_wp2_with (go_at_call 33; refine (index_nil x _).mono ?_; rintro e w' ⟨rfl, rfl⟩)
    go_ret
    exact ⟨rfl, rfl⟩
  · have H := (⟨index_some g L.length cap L x w rfl hn2 hc⟩ : PLift _)
    clear hc hL
    go_enter Try.func31, Try.ntmps31
    go_wp2_with fail
    refine H.down.mono ?_
    rintro e w' ⟨r, rfl, hr, rfl⟩
    rcases hr with ⟨h1, h2⟩ | ⟨rfl, h2⟩
    · have HY : Hid (hasB L x = true) := h2
      clear h2
      go_wp2
      go_ret
      exact ⟨ret_bool' HY.out.symm, rfl⟩
    · have HY : Hid (hasB L x = false) := h2
      clear h2
      go_wp2
      go_ret
      exact ⟨ret_bool' HY.out.symm, rfl⟩
end Go.Proofs.Qxb6600850a
