/- FnReadIsTheReachedNodesThatAreTaken (function 6): lemmas outside the walk. -/
import Derived.Test.Qxb6600850aForms
import Derived.Test.Qxb6600850aWays
import Derived.Test.Qxb6600850aWayHeld
namespace Go.Proofs.Qxb6600850a
open Go.RowKit
set_option linter.unusedVariables false

/-- The lists of children, each readable. -/
def LInts (w : World) (G d n : Nat) (V : Nat → Value) : Prop := G < w.heap.size ∧ ∀ p, p < n → w.cell? ⟨G, p, none⟩ = some (V p) ∧ IntsAt w 0 (V p) (chUp d n p)

theorem LInts.of {w : World} {G d n : Nat} {V : Nat → Value} (h : Lists w G d n n V) : LInts w G d n V :=
  ⟨h.top.lt, fun p hp => ⟨h.top.cell hp, (h.at hp).mono (Nat.zero_le _)⟩⟩

theorem LInts.later {w w' : World} {G d n : Nat} {V : Nat → Value} (h : LInts w G d n V) (hb : Below w.heap.size w w') : LInts w' G d n V :=
  ⟨Nat.lt_of_lt_of_le h.1 hb.size, fun p hp => ⟨(hb.cell (p := ⟨G, p, none⟩) h.1).trans (h.2 p hp).1, (h.2 p hp).2.below hb⟩⟩

/-- A row of ints. -/
def IRow (w : World) (g n : Nat) (f : Nat → Int) : Prop := g < w.heap.size ∧ ∀ i, i < n → w.cell? ⟨g, i, none⟩ = some (.int .i64 (f i))

theorem IRow.of {w : World} {g n : Nat} {f : Nat → Int} (h : w.rowIs g 3 n (fun i => .int .i64 (f i))) : IRow w g n f := ⟨h.lt, fun i hi => h.cell hi⟩

theorem IRow.later {w w' : World} {g n : Nat} {f : Nat → Int} (h : IRow w g n f) (hb : Below w.heap.size w w') : IRow w' g n f :=
  ⟨Nat.lt_of_lt_of_le h.1 hb.size, fun i hi => (hb.cell (p := ⟨g, i, none⟩) h.1).trans (h.2 i hi)⟩

/-- A row, in a world that has turned nothing below. -/
theorem rowIs_later {w w' : World} {b : Nat} {t : TypeId} {n : Nat} {f : Nat → Value} (h : w.rowIs b t n f) (hb : Below w.heap.size w w') : w'.rowIs b t n f := h.of_block (hb.block b h.lt)

theorem grownBy_set {w w' : World} {g : Nat} (h : w.grownBy w' (some g)) (x : Nat) (v : Value) : w.grownBy (w'.setCell ⟨g, x, none⟩ v) (some g) :=
  ⟨h.os, h.tape, h.output, by simpa using h.size, fun k hk hne => by
    rw [Below.heap_setCell _ _ _ _ (fun e => hne (by rw [e]))]
    exact h.block k hk hne⟩

theorem uform {w : World} {B : Nat} {u : Value} {L : List Nat} (h : IntsAt w B u L) : ∃ (ao : Option Addr) (cap : Nat), u = .slice ao L.length cap ∧
    (0 < L.length → ∃ g, ao = some ⟨g, 0, none⟩ ∧ B ≤ g ∧ g < w.heap.size ∧ ∀ i, i < L.length → w.cell? ⟨g, i, none⟩ = some (.int .i64 (L.getD i 0 : Nat))) := by
  rcases h with ⟨e, rfl⟩ | ⟨e, g, cap, rfl, h1, h2, h3⟩
  · subst e
    exact ⟨none, 0, rfl, fun h0 => by simp at h0⟩
  · exact ⟨_, cap, rfl, fun _ => ⟨g, rfl, h1, h2, h3⟩⟩

theorem getD_some' {L : List Nat} {j x m : Nat} (hm : L.length = m) (hj : j < m) (hx : L.getD j 0 = x) : L[j]? = some x := by
  have : j < L.length := by omega
  rw [← hx]; simp [List.getD, List.getElem?_eq_getElem this]

/-- Picked by a node below k. -/
def pkTo (d : Nat) (K : Nat → List Nat) (k x : Nat) : Bool := decide ((x - 1) / d < k) && (K ((x - 1) / d)).contains x

/-- .. or among the first j that k picked. -/
def pkAt (d : Nat) (K : Nat → List Nat) (k j x : Nat) : Bool := pkTo d K k x || ((K k).take j).contains x

theorem pkTo_zero (d : Nat) (K : Nat → List Nat) (x : Nat) : pkTo d K 0 x = false := by simp [pkTo]

theorem pkAt_zero (d : Nat) (K : Nat → List Nat) (k x : Nat) : pkAt d K k 0 x = pkTo d K k x := by simp [pkAt]

theorem pkAt_full {d n : Nat} {K : Nat → List Nat} {k j : Nat} (hK : Kids d n K) (hk : k < n) (hj : j = (K k).length) (x : Nat) : pkAt d K k j x = pkTo d K (k + 1) x := by
  subst hj
  unfold pkAt pkTo
  rw [List.take_length]
  rw [Bool.eq_iff_iff]
  simp only [Bool.or_eq_true, Bool.and_eq_true, decide_eq_true_eq, List.contains_iff_mem]
  constructor
  · rintro (⟨h1, h2⟩ | h)
    · exact ⟨by omega, h2⟩
    · have := (hK k hk).2 x h
      rw [this.2.2]
      exact ⟨by omega, h⟩
  · rintro ⟨h1, h2⟩
    by_cases e : (x - 1) / d = k
    · right; rw [e] at h2; exact h2
    · left; exact ⟨by omega, h2⟩

theorem pk_step {w : World} {b n d k j x : Nat} {K : Nat → List Nat} (hr : w.rowIs b 4 n (fun x => .bool (pkAt d K k j x))) (hx : (K k)[j]? = some x) :
    (w.setCell ⟨b, x, none⟩ (.bool true)).rowIs b 4 n (fun x => .bool (pkAt d K k (j + 1) x)) :=
  (hr.set x _).congr fun i _ => by
    unfold pkAt
    rw [List.take_add_one, hx]
    by_cases e : i = x
    · subst e; simp
    · simp [e]

/-- An array that is filled from the bottom up: below k it is done. -/
def UpTo (k : Nat) (f : Nat → Bool) (j : Nat) : Bool := if j < k then f j else false

theorem upTo_step {w : World} {g n v : Nat} {f : Nat → Bool} {b : Bool} (hr : w.rowIs g 4 n (fun j => .bool (UpTo v f j))) (hb : b = f v) : (w.setCell ⟨g, v, none⟩ (.bool b)).rowIs g 4 n (fun j => .bool (UpTo (v + 1) f j)) :=
  (hr.set v _).congr fun i hi => by
    subst hb
    by_cases e : i = v
    · subst e; simp [UpTo]
    · have : (i < v + 1) = (i < v) := by apply propext; omega
      simp [UpTo, e, this]

theorem downTo_up (w : World) (n : Nat) (f : Nat → Bool) (o : Obj) : ((w.alloc o).alloc (.cells (madeCells #[.bool false] n) 4)).rowIs (w.heap.size + 1) 4 n (fun j => .bool (UpTo 0 f j)) := by
  have h := World.rowIs_made (w.alloc o) (.bool false) n 4
  have hs : (w.alloc o).heap.size = w.heap.size + 1 := by simp
  rw [hs] at h
  exact h.congr fun i _ => by simp [UpTo]

/-- The new row with its first cell set. -/
theorem upTo_root (w : World) (n : Nat) (f : Nat → Bool) (hn : 0 < n) (h0 : f 0 = true) : (w.alloc (.cells ((madeCells #[.bool false] n).setIfInBounds 0 (.bool true)) 4)).rowIs w.heap.size 4 n (fun j => .bool (UpTo 1 f j)) := by
  have h := World.rowIs_alloc w ((madeCells #[.bool false] n).setIfInBounds 0 (.bool true)) 4 (fun j => .bool (UpTo 1 f j)) (fun i hi => by
    have hi' : i < n := by simpa [madeCells] using hi
    rw [Array.getElem?_setIfInBounds]
    by_cases e : i = 0
    · subst e
      simp [UpTo, h0, madeCells, hn]
    · rw [if_neg (fun h => e h.symm)]
      simp [madeCells, hi', Nat.mod_one, UpTo, e])
  have hs : ((madeCells #[.bool false] n).setIfInBounds 0 (.bool true)).size = n := by simp [madeCells]
  rw [hs] at h
  exact h

/-- What has been wanted of the first k. -/
def wantL (d : Nat) (K : Nat → List Nat) (T : Nat → Bool) (k : Nat) : List Nat := (List.range k).filter fun u => reached d K T u && T u

theorem wantL_zero (d : Nat) (K : Nat → List Nat) (T : Nat → Bool) : wantL d K T 0 = [] := rfl

theorem wantL_succ (d : Nat) (K : Nat → List Nat) (T : Nat → Bool) (k : Nat) : wantL d K T (k + 1) = wantL d K T k ++ if (reached d K T k && T k) then [k] else [] := by
  unfold wantL
  rw [List.range_succ, List.filter_append]
  by_cases e : (reached d K T k && T k) = true <;> simp [e]

theorem wantL_le (d : Nat) (K : Nat → List Nat) (T : Nat → Bool) (k : Nat) : (wantL d K T k).length ≤ k := by
  unfold wantL
  exact Nat.le_trans (List.length_filter_le _ _) (by simp)

theorem map_snoc1 (L : List Nat) (k : Nat) : (L.map fun x : Nat => Value.int .i64 x) ++ [.int .i64 (k : Int)] = (L ++ [k]).map fun x : Nat => Value.int .i64 x := by simp

/-- An owned list of positions, nil where it is empty, can be read. -/
theorem intsAt_own {w : World} {B n : Nat} {ao : Option Addr} {cp : Nat} {L : List Nat} (hown : w.ownsRow B 3 1 (.slice ao L.length cp) L.length (L.map fun x : Nat => Value.int .i64 x)) (hnil : L = [] → ao = none ∧ cp = 0) : IntsAt w B (.slice ao L.length cp) L := by
  by_cases e : L = []
  · obtain ⟨rfl, rfl⟩ := hnil e
    subst e
    exact .inl ⟨rfl, rfl⟩
  · obtain ⟨g, cap', hv, h1, h2⟩ := hown.form (List.length_pos_iff.2 e)
    simp only [Value.slice.injEq, true_and] at hv
    obtain ⟨rfl, rfl⟩ := hv
    obtain ⟨k1, k2, _, k4⟩ := own_cells hown
    exact .inr ⟨e, g, cp, rfl, k1, k2, k4⟩
end Go.Proofs.Qxb6600850a
