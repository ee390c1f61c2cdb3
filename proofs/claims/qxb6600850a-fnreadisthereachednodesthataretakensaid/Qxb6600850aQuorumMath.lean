/- What a read quorum is good for: the plain side. -/
import Derived.Test.Qxb6600850aFlagsMath
import Derived.Test.Qxb6600850aReadLoop
namespace Go.Proofs.Qxb6600850a
set_option linter.unusedVariables false

section
variable {d n home : Nat} {lv h : Nat → Bool}

/-- Whatever is reached is marked, if the root is. -/
theorem reached_held (hd : 1 ≤ d) (hh : home < n) (h0 : h 0 = true) : ∀ u, reached d (KK d n home h) (TT d n home lv h) u = true → h u = true := by
  intro u hu
  by_cases e : u = 0
  · subst e; exact h0
  · rw [reached_pos (by omega)] at hu
    simp only [Bool.and_eq_true, List.contains_iff_mem] at hu
    exact (kidsL_mem hd hh hu.2).2.2.2

theorem TT_live {u : Nat} (hT : TT d n home lv h u = true) : lv u = true := by
  unfold TT at hT
  simp only [Bool.and_eq_true] at hT
  exact hT.1

theorem mem_readL {u : Nat} : u ∈ readL d n (KK d n home h) (TT d n home lv h) ↔ u < n ∧ reached d (KK d n home h) (TT d n home lv h) u = true ∧ TT d n home lv h u = true := by
  unfold readL
  rw [List.mem_filter, List.mem_range, Bool.and_eq_true]

/-- Not taken and marked: then a majority of children was chosen. -/
def Deep (d n home : Nat) (lv h : Nat → Bool) : Prop := ∀ v, v < n → h v = true → TT d n home lv h v = false → KK d n home h v ≠ []

theorem hasB_ne {L : List Nat} {x : Int} (hb : hasB L x = true) : L ≠ [] := by
  intro e; rw [e] at hb; simp [hasB] at hb

theorem deep_r (hd : 1 ≤ d) (hh : home < n) : Deep d n home lv (flag d n (rRule d n lv)) := by
  intro v hv hm hT
  unfold TT at hT
  by_cases hl : lv v = true
  · rw [hl] at hT
    exact hasB_ne (by simpa using hT)
  · have hl' : lv v = false := by simpa using hl
    rw [flag_eq d n _ hd hv] at hm
    unfold rRule at hm
    rw [hl'] at hm
    simp only [Bool.false_or, decide_eq_true_eq] at hm
    have hle := marked_le (d * v + 1) (cnt d n v) (flag d n (rRule d n lv))
    intro e
    have := (kidsL_nil_iff (h := flag d n (rRule d n lv)) hd hh (by unfold rRule at hle; omega)).1 e
    unfold rRule at this
    omega

theorem deep_w (hd : 1 ≤ d) (hh : home < n) : Deep d n home lv (flag d n (wRule d n lv)) := by
  intro v hv hm hT
  rw [flag_eq d n _ hd hv] at hm
  unfold wRule at hm
  simp only [Bool.and_eq_true] at hm
  unfold TT at hT
  rw [hm.1] at hT
  exact hasB_ne (by simpa using hT)

/-- The members hold a read quorum of every subtree that is reached. -/
theorem quorum_up (hd : 1 ≤ d) (hh : home < n) (h0 : h 0 = true) (hD : Deep d n home lv h) (inn : Nat → Bool) (hin : ∀ u, u ∈ readL d n (KK d n home h) (TT d n home lv h) → inn u = true) :
    ∀ (k u : Nat), n - u ≤ k → u < n → reached d (KK d n home h) (TT d n home lv h) u = true → flag d n (qRule d n inn) u = true := by
  intro k
  induction k with
  | zero => intro u h1 h2; omega
  | succ k ih =>
    intro u hk hu hr
    rw [flag_eq d n _ hd hu]
    unfold qRule
    by_cases hT : TT d n home lv h u = true
    · rw [hin u (mem_readL.2 ⟨hu, hr, hT⟩)]; simp
    · have hT' : TT d n home lv h u = false := by simpa using hT
      have hne := hD u hu (reached_held hd hh h0 u hr) hT'
      have hC := kidsL_cnt hne
      have hlen := kidsL_length (h := h) hd hh hne
      have hge : (KK d n home h u).length ≤ marked (d * u + 1) (cnt d n u) (flag d n (qRule d n inn)) := by
        refine marked_ge (kidsL_nodup hd hh) (fun x hx => ?_)
        obtain ⟨h1, h2, h3, h4⟩ := kidsL_mem hd hh hx
        obtain ⟨h5, h6⟩ := (child_iff hd h1).1 h3
        have hgt := par_lt (d := d) (c := x) h1
        refine ⟨h5, by unfold cnt; omega, ih x (by omega) h2 ?_⟩
        rw [reached_pos (by omega), h3, hr, hT']
        simpa using hx
      have hlen' : (KK d n home h u).length = cnt d n u / 2 + 1 := hlen
      have : cnt d n u < 2 * marked (d * u + 1) (cnt d n u) (flag d n (qRule d n inn)) := by omega
      unfold qRule at this
      simp [hC, this]
end
end Go.Proofs.Qxb6600850a
