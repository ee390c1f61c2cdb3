/- Plain laws on the choice of children: no Go in sight. -/
import Derived.Test.Qxb6600850aKidsMath
namespace Go.Proofs.Qxb6600850a

theorem rot_range (C s : Nat) (hs : s < C) : ((List.range C).map fun j => (s + j) % C) = (List.range C).drop s ++ (List.range C).take s := by
  apply List.ext_getElem
  · simp; omega
  · intro i h1 h2
    have hi : i < C := by simpa using h1
    rw [List.getElem_append]
    by_cases hl : i < C - s
    · have e : (s + i) % C = s + i := Nat.mod_eq_of_lt (by omega)
      simp [hl, e]
    · have e : (s + i) % C = s + i - C := by
        rw [Nat.mod_eq_sub_mod (by omega), Nat.mod_eq_of_lt (by omega)]
      simp [hl, e]
      omega

theorem kord_rot (F C s : Nat) (hs : s < C) : kord F C s = (((List.range C).map (F + ·)).drop s) ++ (((List.range C).map (F + ·)).take s) := by
  have h := rot_range C s hs
  have : kord F C s = ((List.range C).map fun j => (s + j) % C).map (F + ·) := by simp [kord]
  rw [this, h, List.map_append, List.map_drop, List.map_take]

theorem kord_perm (F C s : Nat) (hs : s < C) : (kord F C s).Perm ((List.range C).map (F + ·)) := by
  rw [kord_rot F C s hs]
  refine List.perm_append_comm.trans ?_
  rw [List.take_append_drop]

/-- How many of C children from F on are marked. -/
def marked (F C : Nat) (h : Nat → Bool) : Nat := (((List.range C).map (F + ·)).filter h).length

theorem filter_kord_length (F C s : Nat) (h : Nat → Bool) (hs : s < C) : ((kord F C s).filter h).length = marked F C h :=
  ((kord_perm F C s hs).filter h).length_eq

theorem mem_kord {F C s x : Nat} (hs : s < C) : x ∈ kord F C s ↔ F ≤ x ∧ x < F + C := by
  rw [(kord_perm F C s hs).mem_iff]
  simp
  constructor
  · rintro ⟨a, h1, rfl⟩; omega
  · rintro ⟨h1, h2⟩; exact ⟨x - F, by omega, by omega⟩

theorem kord_nodup {F C s : Nat} (hs : s < C) : (kord F C s).Nodup := by
  rw [(kord_perm F C s hs).nodup_iff]
  refine List.Pairwise.map _ (fun a b hab => ?_) List.nodup_range
  intro h; exact hab (by omega)

theorem pick_nil_iff {F C s : Nat} {h : Nat → Bool} (hs : s < C) : pick F C s h = [] ↔ 2 * marked F C h ≤ C := by
  unfold pick
  rw [filter_kord_length F C s h hs]
  by_cases hl : marked F C h < C / 2 + 1
  · rw [if_pos hl]; simp; omega
  · rw [if_neg hl]
    constructor
    · intro h0
      have := congrArg List.length h0
      rw [List.length_take, filter_kord_length F C s h hs] at this
      simp at this
      omega
    · omega

theorem pick_length {F C s : Nat} {h : Nat → Bool} (hs : s < C) (hne : pick F C s h ≠ []) : (pick F C s h).length = C / 2 + 1 := by
  have := (not_congr (pick_nil_iff (h := h) (F := F) hs)).1 hne
  unfold pick
  rw [filter_kord_length F C s h hs, if_neg (by omega), List.length_take, filter_kord_length F C s h hs]
  omega

theorem pick_sublist (F C s : Nat) (h : Nat → Bool) : (pick F C s h).Sublist ((kord F C s).filter h) := by
  unfold pick
  split
  · exact List.nil_sublist _
  · exact List.take_sublist _ _

theorem mem_pick {F C s x : Nat} {h : Nat → Bool} (hs : s < C) (hx : x ∈ pick F C s h) : F ≤ x ∧ x < F + C ∧ h x = true := by
  have := (pick_sublist F C s h).subset hx
  rw [List.mem_filter, mem_kord hs] at this
  exact ⟨this.1.1, this.1.2, this.2⟩

theorem pick_nodup {F C s : Nat} {h : Nat → Bool} (hs : s < C) : (pick F C s h).Nodup :=
  ((pick_sublist F C s h).trans List.filter_sublist).nodup (kord_nodup hs)

/-- Where the start child is marked it comes first. -/
theorem pick_head {F C s : Nat} {h : Nat → Bool} (hs : s < C) (hh : h (F + s) = true) (hne : pick F C s h ≠ []) : (pick F C s h).getD 0 0 = F + s := by
  have e : ∃ r, (kord F C s).filter h = (F + s) :: r := by
    match C, hs with
    | C + 1, hs =>
      refine ⟨(((List.range C).map (· + 1)).map fun j => F + (s + j) % (C + 1)).filter h, ?_⟩
      unfold kord
      rw [List.range_succ_eq_map, List.map_cons, List.filter_cons]
      simp only [Nat.add_zero, Nat.mod_eq_of_lt hs, hh, if_true]
  obtain ⟨r, hr⟩ := e
  unfold pick at hne ⊢
  split
  · rename_i hl; rw [if_pos hl] at hne; exact absurd rfl hne
  · rw [hr, List.take_succ_cons]; rfl

/-! At a node of the tree. -/
section
variable {d n home v : Nat} {h : Nat → Bool}

theorem kidsL_nil_iff (hd : 1 ≤ d) (hh : home < n) (hC : 0 < cnt d n v) : kidsL d n home v h = [] ↔ 2 * marked (d * v + 1) (cnt d n v) h ≤ cnt d n v :=
  pick_nil_iff (startOf_lt hd hh hC)

theorem kidsL_cnt (hne : kidsL d n home v h ≠ []) : 0 < cnt d n v := by
  rcases Nat.eq_zero_or_pos (cnt d n v) with hC | hC
  · refine absurd ?_ hne
    unfold kidsL pick
    rw [hC]
    simp [kord]
  · exact hC

theorem kidsL_length (hd : 1 ≤ d) (hh : home < n) (hne : kidsL d n home v h ≠ []) : (kidsL d n home v h).length = cnt d n v / 2 + 1 :=
  pick_length (startOf_lt hd hh (kidsL_cnt hne)) hne

theorem kidsL_mem (hd : 1 ≤ d) (hh : home < n) {x : Nat} (hx : x ∈ kidsL d n home v h) : 1 ≤ x ∧ x < n ∧ (x - 1) / d = v ∧ h x = true := by
  have hC := kidsL_cnt (d := d) (n := n) (home := home) (v := v) (h := h) (List.ne_nil_of_mem hx)
  obtain ⟨h1, h2, h3⟩ := mem_pick (startOf_lt hd hh hC) hx
  refine ⟨by omega, ?_, ?_, h3⟩
  · unfold cnt at h2; omega
  · rw [child_iff hd (by omega)]
    unfold cnt at h2; omega

theorem kidsL_nodup (hd : 1 ≤ d) (hh : home < n) : (kidsL d n home v h).Nodup := by
  rcases Nat.eq_zero_or_pos (cnt d n v) with hC | hC
  · have : kidsL d n home v h = [] := by
      unfold kidsL pick
      rw [hC]
      simp [kord]
    rw [this]; exact List.nodup_nil
  · exact pick_nodup (startOf_lt hd hh hC)

/-- The child towards home comes first where it is marked. -/
theorem kidsL_head (hd : 1 ≤ d) (hh : home < n) {x : Nat} (hx : twd d home v = (x : Int)) (hm : h x = true) (hne : kidsL d n home v h ≠ []) : (kidsL d n home v h).getD 0 0 = x := by
  have hC := kidsL_cnt (d := d) (n := n) (home := home) (v := v) (h := h) hne
  rcases twd_cases d home v with ht | ⟨y, hy, h1, h2, h3⟩
  · omega
  · obtain rfl : x = y := by omega
    have h4 := (child_iff hd h1).1 h3
    have hs : d * v + 1 + startOf d n home v = x := by
      unfold startOf
      rw [if_neg (by omega), hx]
      simp
      omega
    have := pick_head (h := h) (startOf_lt hd hh hC) (by rw [hs]; exact hm) hne
    rw [hs] at this
    exact this
end

/-! The law's own count of the children of v: 'nUp', 'hUp' over the positions below k. s: where they begin. -/
def nUp (s d k : Nat) : Nat := min d (k - s)

theorem nUp_yes {s d k : Nat} (h1 : s ≤ k) (h2 : k < s + d) : nUp s d (k + 1) = nUp s d k + 1 ∧ s + nUp s d k = k := by unfold nUp; omega
theorem nUp_no {s d k : Nat} (h : ¬ (s ≤ k ∧ k < s + d)) : nUp s d (k + 1) = nUp s d k := by unfold nUp; omega

theorem marked_succ (F C : Nat) (h : Nat → Bool) : marked F (C + 1) h = marked F C h + if h (F + C) then 1 else 0 := by
  unfold marked
  rw [List.range_succ, List.map_append, List.filter_append]
  by_cases e : h (F + C) <;> simp [e]

theorem marked_le (F C : Nat) (h : Nat → Bool) : marked F C h ≤ C := by
  unfold marked
  exact Nat.le_trans (List.length_filter_le _ _) (by simp)

end Go.Proofs.Qxb6600850a
