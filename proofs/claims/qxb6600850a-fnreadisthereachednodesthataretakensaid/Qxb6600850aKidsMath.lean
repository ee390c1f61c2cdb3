/- The plain choice of children: no Go in sight. -/
import Derived.Test.Qxb6600850aTree
namespace Go.Proofs.Qxb6600850a

/-- How many children v has. -/
def cnt (d n v : Nat) : Nat := min d (n - (d * v + 1))

/-- C children from F on, in the order that starts at the s-th and wraps round. -/
def kord (F C s : Nat) : List Nat := (List.range C).map fun j => F + (s + j) % C

/-- The first majority of marked ones; nothing where there is none. -/
def pick (F C s : Nat) (h : Nat → Bool) : List Nat :=
  if ((kord F C s).filter h).length < C / 2 + 1 then [] else ((kord F C s).filter h).take (C / 2 + 1)

def startOf (d n home v : Nat) : Nat := if twd d home v = -1 then home % cnt d n v else (twd d home v).toNat - (d * v + 1)

def kidsL (d n home v : Nat) (h : Nat → Bool) : List Nat := pick (d * v + 1) (cnt d n v) (startOf d n home v) h

/-- What has been picked of the first k. -/
def soFar (F C s : Nat) (h : Nat → Bool) (k : Nat) : List Nat := ((kord F C s).take k).filter h

theorem kord_length (F C s : Nat) : (kord F C s).length = C := by simp [kord]

theorem soFar_zero (F C s : Nat) (h : Nat → Bool) : soFar F C s h 0 = [] := by simp [soFar]

theorem soFar_succ (F C s : Nat) (h : Nat → Bool) (k : Nat) (hk : k < C) :
    soFar F C s h (k + 1) = if h (F + (s + k) % C) then soFar F C s h k ++ [F + (s + k) % C] else soFar F C s h k := by
  unfold soFar
  rw [List.take_add_one, List.filter_append]
  have e : (kord F C s)[k]? = some (F + (s + k) % C) := by simp [kord, hk]
  rw [e]
  by_cases hx : h (F + (s + k) % C) <;> simp [hx]

theorem soFar_le (F C s : Nat) (h : Nat → Bool) (k : Nat) : (soFar F C s h k).length ≤ k := by
  unfold soFar
  exact Nat.le_trans (List.length_filter_le _ _) (by simp; omega)

theorem soFar_prefix (F C s : Nat) (h : Nat → Bool) (k : Nat) : ∃ r, (kord F C s).filter h = soFar F C s h k ++ r :=
  ⟨((kord F C s).drop k).filter h, by unfold soFar; rw [← List.filter_append, List.take_append_drop]⟩

theorem pick_hit (F C s : Nat) (h : Nat → Bool) (k : Nat) (hl : (soFar F C s h k).length = C / 2 + 1) : pick F C s h = soFar F C s h k := by
  obtain ⟨r, hr⟩ := soFar_prefix F C s h k
  unfold pick
  rw [hr, if_neg (by simp; omega), ← hl, List.take_left]

theorem pick_miss (F C s : Nat) (h : Nat → Bool) (hl : (soFar F C s h C).length < C / 2 + 1) : pick F C s h = [] := by
  have e : soFar F C s h C = (kord F C s).filter h := by
    unfold soFar
    rw [List.take_of_length_le (by rw [kord_length]; exact Nat.le_refl _)]
  unfold pick
  rw [← e, if_pos hl]

/-- A child's place, and back. -/
theorem child_iff {d c v : Nat} (hd : 1 ≤ d) (hc : 1 ≤ c) : (c - 1) / d = v ↔ d * v + 1 ≤ c ∧ c < d * v + 1 + d := by
  rw [Nat.div_eq_iff (by omega)]
  have : v * d = d * v := Nat.mul_comm _ _
  omega

/-- The start lies among the children. -/
theorem startOf_lt {d n home v : Nat} (hd : 1 ≤ d) (hh : home < n) (hC : 0 < cnt d n v) : startOf d n home v < cnt d n v := by
  unfold startOf
  split
  · exact Nat.mod_lt _ hC
  · rename_i hne
    rcases twd_cases d home v with h | ⟨x, hx, h1, h2, h3⟩
    · exact absurd h hne
    · rw [hx]
      have h4 := (child_iff hd h1).1 h3
      simp only [Int.toNat_natCast, cnt]
      omega

end Go.Proofs.Qxb6600850a
