/- The plain walk over the tree that 'read' makes: no Go in sight. -/
import Derived.Test.Qxb6600850aKidsLaws
namespace Go.Proofs.Qxb6600850a

/-- Is x reached: the root; or a child that its parent, reached and not taken, chose. -/
def rch (d : Nat) (K : Nat → List Nat) (T : Nat → Bool) : Nat → Nat → Bool
  | 0, u => u == 0
  | f + 1, u => u == 0 || (rch d K T f ((u - 1) / d) && !T ((u - 1) / d) && (K ((u - 1) / d)).contains u)

def reached (d : Nat) (K : Nat → List Nat) (T : Nat → Bool) (u : Nat) : Bool := rch d K T u u

theorem rch_zero (d : Nat) (K : Nat → List Nat) (T : Nat → Bool) (f : Nat) : rch d K T f 0 = true := by
  cases f <;> simp [rch]

theorem rch_fuel (d : Nat) (K : Nat → List Nat) (T : Nat → Bool) : ∀ (f g u : Nat), u ≤ f → u ≤ g → rch d K T f u = rch d K T g u := by
  intro f
  induction f with
  | zero =>
    intro g u h _
    obtain rfl : u = 0 := by omega
    rw [rch_zero, rch_zero]
  | succ f ih =>
    intro g u h h'
    by_cases e : u = 0
    · subst e; rw [rch_zero, rch_zero]
    · match g with
      | 0 => omega
      | g + 1 =>
        have h1 := @par_lt d u (by omega)
        simp only [rch]
        rw [ih g _ (by omega) (by omega)]

theorem reached_zero (d : Nat) (K : Nat → List Nat) (T : Nat → Bool) : reached d K T 0 = true := rch_zero _ _ _ _

theorem reached_pos {d : Nat} {K : Nat → List Nat} {T : Nat → Bool} {u : Nat} (hu : 0 < u) :
    reached d K T u = (reached d K T ((u - 1) / d) && !T ((u - 1) / d) && (K ((u - 1) / d)).contains u) := by
  unfold reached
  match u, hu with
  | u + 1, _ =>
    have e : ((u + 1 : Nat) == 0) = false := by simp
    simp only [rch, e, Bool.false_or, Nat.add_sub_cancel]
    rw [rch_fuel d K T u (u / d) (u / d) (Nat.div_le_self u d) (Nat.le_refl _)]

/-- What is pushed behind v. -/
def nxt (K : Nat → List Nat) (T : Nat → Bool) (v : Nat) : List Nat := if T v then [] else K v

structure Inv (d n : Nat) (K : Nat → List Nat) (T : Nat → Bool) (done stack : List Nat) : Prop where
  nodup : (done ++ stack).Nodup
  lt : ∀ u, u ∈ done ++ stack → u < n
  chain : ∀ u, u ∈ done ++ stack → u = 0 ∨ ((u - 1) / d ∈ done ∧ u ∈ nxt K T ((u - 1) / d))
  root : 0 ∈ done ++ stack
  closed : ∀ p, p ∈ done → ∀ k, k ∈ nxt K T p → k ∈ done ++ stack

theorem inv_start (d n : Nat) (K : Nat → List Nat) (T : Nat → Bool) (hn : 0 < n) : Inv d n K T [] [0] where
  nodup := by simp
  lt := by simpa using hn
  chain := by intro u hu; left; simpa using hu
  root := by simp
  closed := by intro p hp; simp at hp

/-- What is asked of the choice of children. -/
def Kids (d n : Nat) (K : Nat → List Nat) : Prop := ∀ v, v < n → (K v).Nodup ∧ ∀ x, x ∈ K v → 1 ≤ x ∧ x < n ∧ (x - 1) / d = v

theorem inv_step {d n : Nat} {K : Nat → List Nat} {T : Nat → Bool} {done st : List Nat} {v : Nat} (hK : Kids d n K) (h : Inv d n K T done (st ++ [v])) : Inv d n K T (done ++ [v]) (st ++ nxt K T v) := by
  have hv : v < n := h.lt v (by simp)
  obtain ⟨hKn, hKm⟩ := hK v hv
  have hsub : ∀ x, x ∈ nxt K T v → x ∈ K v := by
    intro x hx
    unfold nxt at hx
    split at hx
    · simp at hx
    · exact hx
  have hvd : v ∉ done := by
    intro hm
    have := (List.nodup_append.1 h.nodup).2.2 v hm v (by simp)
    exact this rfl
  have hfresh : ∀ x, x ∈ nxt K T v → x ∉ done ++ (st ++ [v]) := by
    intro x hx hm
    obtain ⟨h1, _, h3⟩ := hKm x (hsub x hx)
    rcases h.chain x hm with e | ⟨e, _⟩
    · omega
    · rw [h3] at e; exact hvd e
  have hnx : (nxt K T v).Nodup := by
    unfold nxt
    split
    · exact List.nodup_nil
    · exact hKn
  have hmem : ∀ u, u ∈ done ++ (st ++ [v]) → u ∈ done ++ [v] ++ (st ++ nxt K T v) := by
    intro u hu
    simp only [List.mem_append] at hu ⊢
    rcases hu with hu | hu | hu
    · exact .inl (.inl hu)
    · exact .inr (.inl hu)
    · exact .inl (.inr hu)
  refine ⟨?_, ?_, ?_, hmem 0 h.root, ?_⟩
  · have hp : (done ++ [v] ++ (st ++ nxt K T v)).Perm (done ++ (st ++ [v]) ++ nxt K T v) := by
      simp only [List.append_assoc]
      refine List.Perm.append_left done ?_
      rw [← List.append_assoc, ← List.append_assoc]
      exact List.Perm.append_right _ List.perm_append_comm
    rw [hp.nodup_iff, List.nodup_append]
    exact ⟨h.nodup, hnx, fun a ha b hb e => hfresh b hb (e ▸ ha)⟩
  · intro u hu
    simp only [List.mem_append] at hu
    rcases hu with (hu | hu) | (hu | hu)
    · exact h.lt u (by simp [hu])
    · exact h.lt u (by simp at hu; simp [hu])
    · exact h.lt u (by simp [hu])
    · exact (hKm u (hsub u hu)).2.1
  · intro u hu
    have old : u ∈ done ++ (st ++ [v]) → u = 0 ∨ ((u - 1) / d ∈ done ++ [v] ∧ u ∈ nxt K T ((u - 1) / d)) := by
      intro hm
      rcases h.chain u hm with e | ⟨e1, e2⟩
      · exact .inl e
      · exact .inr ⟨by simp [e1], e2⟩
    simp only [List.mem_append] at hu
    rcases hu with (hu | hu) | (hu | hu)
    · exact old (by simp [hu])
    · exact old (by simp at hu; simp [hu])
    · exact old (by simp [hu])
    · right
      rw [(hKm u (hsub u hu)).2.2]
      exact ⟨by simp, hu⟩
  · intro p hp k hk
    simp only [List.mem_append, List.mem_singleton] at hp
    rcases hp with hp | rfl
    · exact hmem k (h.closed p hp k hk)
    · simp [hk]

theorem nodup_length {n : Nat} {L : List Nat} (hn : L.Nodup) (hl : ∀ u, u ∈ L → u < n) : L.length ≤ n := by
  have hp : L.Perm ((List.range n).filter fun u => L.contains u) := by
    refine (List.perm_ext_iff_of_nodup hn ?_).2 ?_
    · exact List.filter_sublist.nodup List.nodup_range
    · intro u
      rw [List.mem_filter, List.mem_range, List.contains_iff_mem]
      exact ⟨fun h => ⟨hl u h, h⟩, fun h => h.2⟩
  rw [hp.length_eq]
  exact Nat.le_trans (List.length_filter_le _ _) (by simp)

theorem inv_length {d n : Nat} {K : Nat → List Nat} {T : Nat → Bool} {done stack : List Nat} (h : Inv d n K T done stack) : done.length + stack.length ≤ n := by
  have := nodup_length h.nodup h.lt
  simpa using this

/-- At the end: what was done is what is reached. -/
theorem inv_end {d n : Nat} {K : Nat → List Nat} {T : Nat → Bool} {done : List Nat} (h : Inv d n K T done []) : ∀ u, u ∈ done ↔ (u < n ∧ reached d K T u = true) := by
  have hcl : ∀ p, p ∈ done → ∀ k, k ∈ nxt K T p → k ∈ done := fun p hp k hk => by simpa using h.closed p hp k hk
  have h1 : ∀ u, u ∈ done → reached d K T u = true := by
    intro u
    induction u using Nat.strongRecOn with
    | ind u ih =>
      intro hu
      rcases h.chain u (by simpa using hu) with rfl | ⟨e1, e2⟩
      · exact reached_zero _ _ _
      · by_cases e0 : u = 0
        · subst e0; exact reached_zero _ _ _
        · rw [reached_pos (by omega), ih _ (par_lt (by omega)) e1]
          unfold nxt at e2
          split at e2
          · simp at e2
          · rename_i hT
            simp [hT, e2]
  have h2 : ∀ u, reached d K T u = true → u ∈ done := by
    intro u
    induction u using Nat.strongRecOn with
    | ind u ih =>
      intro hu
      by_cases e0 : u = 0
      · subst e0; simpa using h.root
      · rw [reached_pos (by omega)] at hu
        simp only [Bool.and_eq_true, Bool.not_eq_true', List.contains_iff_mem] at hu
        obtain ⟨⟨a, b⟩, c⟩ := hu
        refine hcl _ (ih _ (par_lt (by omega)) a) u ?_
        unfold nxt
        rw [b]
        exact c
  intro u
  exact ⟨fun hu => ⟨h.lt u (by simpa using hu), h1 u hu⟩, fun hu => h2 u hu.2⟩

/-- The read quorum: the reached nodes that are taken, in increasing order. -/
def readL (d n : Nat) (K : Nat → List Nat) (T : Nat → Bool) : List Nat := (List.range n).filter fun u => reached d K T u && T u

theorem done_perm {d n : Nat} {K : Nat → List Nat} {T : Nat → Bool} {done : List Nat} (h : Inv d n K T done []) : (done.filter T).Perm (readL d n K T) := by
  refine (List.perm_ext_iff_of_nodup ?_ ?_).2 ?_
  · exact (List.filter_sublist (p := T)).nodup (by simpa using h.nodup)
  · exact (List.filter_sublist).nodup List.nodup_range
  · intro u
    unfold readL
    rw [List.mem_filter, List.mem_filter, inv_end h u, List.mem_range]
    simp only [Bool.and_eq_true]
    exact ⟨fun ⟨⟨a, b⟩, c⟩ => ⟨a, b, c⟩, fun ⟨a, b, c⟩ => ⟨⟨a, b⟩, c⟩⟩

theorem readL_sorted (d n : Nat) (K : Nat → List Nat) (T : Nat → Bool) : (readL d n K T).Pairwise (· < ·) :=
  List.Pairwise.filter _ List.pairwise_lt_range

/-- Sorted, it is the read quorum. -/
theorem sort_done {d n : Nat} {K : Nat → List Nat} {T : Nat → Bool} {done : List Nat} (h : Inv d n K T done []) :
    (((done.filter T).map fun x : Nat => (x : Int)).mergeSort fun x y => decide (x ≤ y)) = (readL d n K T).map fun x : Nat => (x : Int) := by
  have hp := (done_perm h).map (fun x : Nat => (x : Int))
  have hs : ((readL d n K T).map fun x : Nat => (x : Int)).Pairwise (fun x y => (decide (x ≤ y)) = true) :=
    List.Pairwise.map _ (fun a b hab => by simp; omega) (readL_sorted d n K T)
  have hm := List.pairwise_mergeSort (le := fun x y : Int => decide (x ≤ y)) (by intro a b c; simp; omega) (by intro a b; simp; omega) ((done.filter T).map fun x : Nat => (x : Int))
  refine List.Perm.eq_of_pairwise (le := fun x y : Int => decide (x ≤ y) = true) ?_ hm hs ((List.mergeSort_perm _ _).trans hp)
  intro a b _ _ h1 h2
  simp at h1 h2
  omega

end Go.Proofs.Qxb6600850a
