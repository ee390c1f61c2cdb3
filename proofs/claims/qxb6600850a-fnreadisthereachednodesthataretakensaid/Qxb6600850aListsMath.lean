/- The lists of children: the plain side, and what a round does to the memory. -/
import Derived.Test.Qxb6600850aKidsLaws
import Derived.WalkKit
import Derived.Deep.OwnRows
import Derived.Deep.AppendLies
namespace Go.Proofs.Qxb6600850a
open Go.RowKit
set_option linter.unusedVariables false

/-- The children of p below k, in increasing order. -/
def chUp (d k p : Nat) : List Nat := (List.range (nUp (d * p + 1) d k)).map (d * p + 1 + ·)

theorem chUp_one (d p : Nat) : chUp d 1 p = [] := by
  have : nUp (d * p + 1) d 1 = 0 := by unfold nUp; omega
  simp [chUp, this]

theorem chUp_hit {d k p : Nat} (hd : 1 ≤ d) (hk : 1 ≤ k) (hp : (k - 1) / d = p) : chUp d (k + 1) p = chUp d k p ++ [k] := by
  obtain ⟨h1, h2⟩ := (child_iff hd hk).1 hp
  obtain ⟨e1, e2⟩ := nUp_yes h1 h2
  unfold chUp
  rw [e1, List.range_succ, List.map_append, List.map_singleton, e2]

theorem chUp_miss {d k p : Nat} (hd : 1 ≤ d) (hk : 1 ≤ k) (hp : (k - 1) / d ≠ p) : chUp d (k + 1) p = chUp d k p := by
  unfold chUp
  rw [nUp_no (fun h => hp ((child_iff hd hk).2 h))]

theorem chUp_length (d k p : Nat) : (chUp d k p).length ≤ k := by
  simp [chUp, nUp]; omega

/-- All the children of p. -/
theorem chUp_all (d n p : Nat) : chUp d n p = (List.range (cnt d n p)).map (d * p + 1 + ·) := rfl

structure Lists (w : World) (G d n k : Nat) (V : Nat → Value) : Prop where
  top : w.rowIs G 27 n V
  own : ∀ p, p < n → w.ownsRow (G + 1) 3 1 (V p) (chUp d k p).length ((chUp d k p).map fun x : Nat => Value.int .i64 x)
  nil : ∀ p, p < n → chUp d k p = [] → V p = .slice none 0 0
  apart : ∀ p q, p < n → q < n → p ≠ q → (V p).ownBlock = none ∨ (V p).ownBlock ≠ (V q).ownBlock

theorem lists_start (w : World) (d n : Nat) : Lists (w.alloc (.cells (madeCells #[.slice none 0 0] n) 27)) w.heap.size d n 1 (fun _ => .slice none 0 0) where
  top := World.rowIs_made w _ n 27
  own := fun p _ => by rw [chUp_one]; exact World.ownsRow_nil _ _ _ _
  nil := fun _ _ _ => rfl
  apart := fun _ _ _ _ _ => .inl rfl

theorem lists_top {wr w1 : World} {G d n k p : Nat} {V : Nat → Value} {o : Obj} (hL : Lists wr G d n k V) (hpn : p < n) (hgrow : (wr.alloc o).grownBy w1 (V p).ownBlock) : w1.rowIs G 27 n V :=
  (hL.top.alloc o).of_block (hgrow.block G (by have := hL.top.lt; simp; omega) (fun h => by have := ((hL.own p hpn).lt G h.symm).1; omega))

theorem lists_step {wr w1 : World} {G d n k p g cap : Nat} {V : Nat → Value} {o : Obj} (hL : Lists wr G d n k V) (hd : 1 ≤ d) (hk : 1 ≤ k) (hp : (k - 1) / d = p) (hpn : p < n)
    (hgrow : (wr.alloc o).grownBy w1 (V p).ownBlock)
    (hown : w1.ownsRow (G + 1) 3 1 (.slice (some ⟨g, 0, none⟩) ((chUp d k p).length + 1) cap) ((chUp d k p).length + 1) (((chUp d k p).map fun x : Nat => Value.int .i64 x) ++ [.int .i64 (k : Int)]))
    (hat : (V p).ownBlock = some g ∨ g = wr.heap.size + 1) :
    Lists (w1.setCell ⟨G, p, none⟩ (.slice (some ⟨g, 0, none⟩) ((chUp d k p).length + 1) cap)) G d n (k + 1) (fun j => if j = p then .slice (some ⟨g, 0, none⟩) ((chUp d k p).length + 1) cap else V j) := by
  have hG : G < wr.heap.size := hL.top.lt
  have hrow : some G ≠ (V p).ownBlock := by
    intro h
    have := ((hL.own p hpn).lt G h.symm).1
    omega
  refine ⟨?_, ?_, ?_, ?_⟩
  · have t1 : w1.rowIs G 27 n V := (hL.top.alloc o).of_block (hgrow.block G (by simp; omega) hrow)
    exact (t1.set p _).congr fun i _ => rfl
  · intro q hq
    by_cases e : q = p
    · subst e
      rw [if_pos rfl, chUp_hit hd hk hp]
      simp only [List.length_append, List.length_singleton, List.map_append, List.map_singleton]
      exact ownsRow_setCell_below hown (by show G < G + 1; omega) _
    · rw [if_neg e, chUp_miss hd hk (by omega)]
      have h1 := (hL.own q hq).alloc o
      have h2 := h1.kept hgrow (hL.apart q p hq hpn e)
      exact ownsRow_setCell_below h2 (by show G < G + 1; omega) _
  · intro q hq hnil
    by_cases e : q = p
    · subst e
      rw [chUp_hit hd hk hp] at hnil
      simp at hnil
    · rw [if_neg e]
      rw [chUp_miss hd hk (by omega)] at hnil
      exact hL.nil q hq hnil
  · have key : ∀ q, q < n → q ≠ p → (V q).ownBlock = none ∨ (V q).ownBlock ≠ some g := by
      intro q hq e
      cases hv : (V q).ownBlock with
      | none => exact .inl rfl
      | some x =>
        right
        intro h
        rcases hat with hat | hat
        · rcases hL.apart q p hq hpn e with h' | h'
          · rw [hv] at h'; cases h'
          · exact h' (by rw [hat, hv, h])
        · have := ((hL.own q hq).lt x hv).2
          have : x = g := by simpa using h
          omega
    intro q r hq hr hne
    by_cases e : q = p
    · subst e
      rw [if_pos rfl, if_neg (fun h => hne h.symm)]
      right
      intro h
      rcases key r hr (fun h => hne h.symm) with h' | h'
      · rw [h'] at h; cases h
      · exact h' h.symm
    · rw [if_neg e]
      by_cases e' : r = p
      · subst e'
        rw [if_pos rfl]
        exact key q hq e
      · rw [if_neg e']
        exact hL.apart q r hq hr hne
end Go.Proofs.Qxb6600850a
