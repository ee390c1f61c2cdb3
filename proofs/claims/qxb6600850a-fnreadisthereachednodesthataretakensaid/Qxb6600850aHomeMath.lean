/- A live home whose way held is a member: the plain side. -/
import Derived.Test.Qxb6600850aQuorumMath
namespace Go.Proofs.Qxb6600850a
set_option linter.unusedVariables false

/-- A node on the way to H hangs on its parent's way child. -/
theorem way_par (d : Nat) : ∀ (H c : Nat), 0 < c → (c = H ∨ ∃ x : Nat, twd d H c = (x : Int)) → twd d H ((c - 1) / d) = (c : Int) := by
  intro H
  induction H using Nat.strongRecOn with
  | ind H ih =>
    intro c hc h
    by_cases e : c = H
    · subst e
      rw [twd_step d c _ hc, if_pos rfl]
    · rcases h with h | ⟨x, h⟩
      · exact absurd h e
      · by_cases h0 : H = 0
        · subst h0; rw [twd_zero] at h; omega
        · have hq := @par_lt d H (by omega)
          have hcp := @par_lt d c hc
          rw [twd_step d H c (by omega)] at h
          rw [twd_step d H _ (by omega)]
          by_cases e1 : (H - 1) / d = c
          · rw [if_neg (by omega), e1]
            exact ih c (by omega) c hc (.inl rfl)
          · rw [if_neg e1] at h
            have hlt : c < (H - 1) / d := by
              apply Classical.byContradiction
              intro hh
              rw [twd_ge d _ c (by omega)] at h
              omega
            rw [if_neg (by omega)]
            exact ih _ hq c hc (.inr ⟨x, h⟩)

section
variable {d n home : Nat} {lv h : Nat → Bool}

theorem hasB_neg (L : List Nat) : hasB L (-1) = false := hasB_no (fun j _ => by omega)

/-- On the way all is marked, and each step is marked by a majority. -/
def WayOk (d n home : Nat) (h : Nat → Bool) : Prop := ∀ p x : Nat, twd d home p = (x : Int) → h x = true ∧ cnt d n p < 2 * marked (d * p + 1) (cnt d n p) h

theorem way_reached (hd : 1 ≤ d) (hh : home < n) (hW : WayOk d n home h) : ∀ c, (c = home ∨ ∃ x : Nat, twd d home c = (x : Int)) → reached d (KK d n home h) (TT d n home lv h) c = true := by
  intro c
  induction c using Nat.strongRecOn with
  | ind c ih =>
    intro hc
    by_cases e : c = 0
    · subst e; exact reached_zero _ _ _
    · have hp := way_par d home c (by omega) hc
      have hlt := @par_lt d c (by omega)
      obtain ⟨h1, h2⟩ := hW _ c hp
      have hle := marked_le (d * ((c - 1) / d) + 1) (cnt d n ((c - 1) / d)) h
      have hne : kidsL d n home ((c - 1) / d) h ≠ [] := by
        intro e0
        have := (kidsL_nil_iff (h := h) hd hh (by omega)).1 e0
        omega
      have hhd := kidsL_head hd hh hp h1 hne
      have hpos : 0 < (kidsL d n home ((c - 1) / d) h).length := List.length_pos_iff.2 hne
      have hmem : c ∈ kidsL d n home ((c - 1) / d) h := by
        rw [getD_lt hpos] at hhd
        have hm := List.getElem_mem hpos
        rw [hhd] at hm
        exact hm
      have hT : TT d n home lv h ((c - 1) / d) = false := by
        unfold TT
        rw [hp, hasB_iff]
        simp [hmem]
      rw [reached_pos (by omega), ih _ hlt (.inr ⟨c, hp⟩), hT]
      simpa using hmem

theorem home_member (hd : 1 ≤ d) (hh : home < n) (hl : lv home = true) (hW : WayOk d n home h) : hasB (readL d n (KK d n home h) (TT d n home lv h)) (home : Int) = true := by
  rw [hasB_iff, List.contains_iff_mem, mem_readL]
  refine ⟨hh, way_reached hd hh hW home (.inl rfl), ?_⟩
  unfold TT
  rw [hl, twd_ge d home home (Nat.le_refl _), hasB_neg]
  rfl
end
end Go.Proofs.Qxb6600850a
