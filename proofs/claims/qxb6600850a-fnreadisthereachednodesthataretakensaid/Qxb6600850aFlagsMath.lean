/- Flags that go up the tree: the plain side. -/
import Derived.Test.Qxb6600850aReadMath
namespace Go.Proofs.Qxb6600850a

theorem marked_congr {F C : Nat} {h h' : Nat → Bool} (e : ∀ j, j < C → h (F + j) = h' (F + j)) : marked F C h = marked F C h' := by
  unfold marked
  congr 1
  apply List.filter_congr
  intro x hx
  rw [List.mem_map] at hx
  obtain ⟨j, hj, rfl⟩ := hx
  exact e j (by simpa using hj)

/-- A flag of v out of how many of v's children bear it. 's v m': the rule. -/
def flg (d n : Nat) (s : Nat → Nat → Bool) : Nat → Nat → Bool
  | 0, _ => false
  | f + 1, v => s v (marked (d * v + 1) (cnt d n v) (flg d n s f))

def flag (d n : Nat) (s : Nat → Nat → Bool) (v : Nat) : Bool := flg d n s (n - v) v

theorem child_gt {d n v j : Nat} (hd : 1 ≤ d) (hj : j < cnt d n v) : v < d * v + 1 + j ∧ d * v + 1 + j < n := by
  have h1 : v ≤ d * v := Nat.le_mul_of_pos_left v hd
  unfold cnt at hj
  omega

theorem flg_fuel (d n : Nat) (s : Nat → Nat → Bool) (hd : 1 ≤ d) : ∀ (f g v : Nat), v < n → n - v ≤ f → n - v ≤ g → flg d n s f v = flg d n s g v := by
  intro f
  induction f with
  | zero => intro g v hv h _; omega
  | succ f ih =>
    intro g v hv h h'
    match g with
    | 0 => omega
    | g + 1 =>
      simp only [flg]
      congr 1
      apply marked_congr
      intro j hj
      obtain ⟨h1, h2⟩ := child_gt hd hj
      exact ih g _ h2 (by omega) (by omega)

theorem flag_eq (d n : Nat) (s : Nat → Nat → Bool) (hd : 1 ≤ d) {v : Nat} (hv : v < n) : flag d n s v = s v (marked (d * v + 1) (cnt d n v) (flag d n s)) := by
  unfold flag
  obtain ⟨f, hf⟩ : ∃ f, n - v = f + 1 := ⟨n - v - 1, by omega⟩
  rw [hf]
  simp only [flg]
  congr 1
  apply marked_congr
  intro j hj
  obtain ⟨h1, h2⟩ := child_gt hd hj
  exact flg_fuel d n s hd _ _ _ h2 (by omega) (by omega)

/-- The rules: read quorum, write quorum, and the law's own 'q'. -/
def rRule (d n : Nat) (lv : Nat → Bool) (v m : Nat) : Bool := lv v || decide (cnt d n v < 2 * m)
def wRule (d n : Nat) (lv : Nat → Bool) (v m : Nat) : Bool := lv v && (decide (cnt d n v = 0) || decide (cnt d n v < 2 * m))
def qRule (d n : Nat) (inn : Nat → Bool) (v m : Nat) : Bool := inn v || (decide (0 < cnt d n v) && decide (cnt d n v < 2 * m))

/-- A set of marked children is no greater than all the marked ones. -/
theorem marked_ge {F C : Nat} {h : Nat → Bool} {L : List Nat} (hn : L.Nodup) (hL : ∀ x, x ∈ L → F ≤ x ∧ x < F + C ∧ h x = true) : L.length ≤ marked F C h := by
  unfold marked
  have hp : L.Perm ((((List.range C).map (F + ·)).filter h).filter fun u => L.contains u) := by
    refine (List.perm_ext_iff_of_nodup hn ?_).2 ?_
    · refine (List.filter_sublist.trans List.filter_sublist).nodup ?_
      refine List.Pairwise.map _ (fun a b hab => ?_) List.nodup_range
      intro h; exact hab (by omega)
    · intro u
      rw [List.mem_filter, List.mem_filter, List.contains_iff_mem]
      constructor
      · intro hu
        obtain ⟨h1, h2, h3⟩ := hL u hu
        exact ⟨⟨by rw [List.mem_map]; exact ⟨u - F, by simp; omega, by omega⟩, h3⟩, hu⟩
      · intro hu; exact hu.2
  rw [hp.length_eq]
  exact List.length_filter_le _ _

end Go.Proofs.Qxb6600850a
