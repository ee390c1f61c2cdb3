/- The plain tree: no Go in sight. 'twd d c v': the child of v on the way down to c, or -1. -/
import Derived.KernelRfl
namespace Go.Proofs.Qxb6600850a

def tw (d : Nat) : Nat → Nat → Nat → Int
  | 0, _, _ => -1
  | f + 1, c, v => if c = 0 then -1 else if (c - 1) / d = v then (c : Int) else tw d f ((c - 1) / d) v

def twd (d c v : Nat) : Int := tw d c c v

theorem par_lt {d c : Nat} (h : 0 < c) : (c - 1) / d < c := by
  have := Nat.div_le_self (c - 1) d
  omega

theorem tw_fuel (d v : Nat) : ∀ (f g c : Nat), c ≤ f → c ≤ g → tw d f c v = tw d g c v := by
  intro f
  induction f with
  | zero =>
    intro g c h _
    obtain rfl : c = 0 := by omega
    cases g <;> simp [tw]
  | succ f ih =>
    intro g c h h'
    match g with
    | 0 =>
      obtain rfl : c = 0 := by omega
      simp [tw]
    | g + 1 =>
      simp only [tw]
      by_cases e : c = 0
      · simp [e]
      · have h1 := @par_lt d c (by omega)
        rw [ih g ((c - 1) / d) (by omega) (by omega)]

theorem twd_zero (d v : Nat) : twd d 0 v = -1 := rfl

theorem twd_step (d c v : Nat) (h : 0 < c) : twd d c v = if (c - 1) / d = v then (c : Int) else twd d ((c - 1) / d) v := by
  unfold twd
  match c, h with
  | c + 1, _ =>
    simp only [tw, Nat.add_sub_cancel]
    rw [if_neg (by omega), tw_fuel d v c (c / d) (c / d) (Nat.div_le_self c d) (Nat.le_refl _)]

theorem twd_ge (d : Nat) : ∀ (c v : Nat), c ≤ v → twd d c v = -1 := by
  intro c
  induction c using Nat.strongRecOn with
  | ind c ih =>
    intro v h
    by_cases e : c = 0
    · subst e; rfl
    · have h1 := @par_lt d c (by omega)
      rw [twd_step d c v (by omega), if_neg (by omega)]
      exact ih _ h1 v (by omega)

/-- What the way child is: nothing, or a node from 1 to c whose parent is v. -/
theorem twd_cases (d : Nat) : ∀ (c v : Nat), twd d c v = -1 ∨ ∃ x : Nat, twd d c v = (x : Int) ∧ 0 < x ∧ x ≤ c ∧ (x - 1) / d = v := by
  intro c
  induction c using Nat.strongRecOn with
  | ind c ih =>
    intro v
    by_cases e : c = 0
    · subst e; exact .inl rfl
    · have h1 := @par_lt d c (by omega)
      rw [twd_step d c v (by omega)]
      by_cases ev : (c - 1) / d = v
      · rw [if_pos ev]
        exact .inr ⟨c, rfl, by omega, by omega, ev⟩
      · rw [if_neg ev]
        rcases ih _ h1 v with h | ⟨x, hx, h2, h3, h4⟩
        · exact .inl h
        · exact .inr ⟨x, hx, h2, by omega, h4⟩

theorem twd_range (d c v : Nat) : -1 ≤ twd d c v ∧ twd d c v ≤ (c : Int) := by
  rcases twd_cases d c v with h | ⟨x, hx, _, h3, _⟩
  · omega
  · omega

/-- Division as the walk writes it. -/
theorem par_int {d c : Nat} (h : 0 < c) : ((c : Int) - 1) / (d : Int) = (((c - 1) / d : Nat) : Int) := by
  have : (c : Int) - 1 = ((c - 1 : Nat) : Int) := by omega
  rw [this]
  exact (Int.natCast_ediv _ _).symm

end Go.Proofs.Qxb6600850a
