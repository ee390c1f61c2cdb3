/- Readable memory in one form each, carried from world to world. -/
import Derived.Test.Qxb6600850aFlags
import Derived.Test.Qxb6600850aZzRead
namespace Go.Proofs.Qxb6600850a
open Go.RowKit
set_option linter.unusedVariables false

/-- A row of bools. -/
def BRow (w : World) (g n : Nat) (f : Nat → Bool) : Prop := g < w.heap.size ∧ ∀ i, i < n → w.cell? ⟨g, i, none⟩ = some (.bool (f i))

theorem BRow.of {w : World} {g n : Nat} {f : Nat → Bool} (h : w.rowIs g 4 n (fun i => .bool (f i))) : BRow w g n f := ⟨h.lt, fun i hi => h.cell hi⟩

theorem BRow.later {w w' : World} {g n : Nat} {f : Nat → Bool} (h : BRow w g n f) (hb : Below w.heap.size w w') : BRow w' g n f :=
  ⟨Nat.lt_of_lt_of_le h.1 hb.size, fun i hi => (hb.cell (p := ⟨g, i, none⟩) h.1).trans (h.2 i hi)⟩

/-- The lists of children. -/
def LForm (w : World) (G d n : Nat) : Prop := G < w.heap.size ∧ ∀ p, p < n → ∃ (ao : Option Addr) (cap : Nat), w.cell? ⟨G, p, none⟩ = some (.slice ao (cnt d n p) cap) ∧
  (0 < cnt d n p → ∃ g, ao = some ⟨g, 0, none⟩ ∧ g < w.heap.size ∧ ∀ i, i < cnt d n p → w.cell? ⟨g, i, none⟩ = some (.int .i64 ((d * p + 1 + i : Nat) : Int)))

theorem LForm.of {w : World} {G d n : Nat} {V : Nat → Value} (h : Lists w G d n n V) : LForm w G d n :=
  ⟨h.top.lt, fun p hp => by
    obtain ⟨ao, cap, hv, hf⟩ := h.form hp
    exact ⟨ao, cap, by rw [h.top.cell hp, hv], hf⟩⟩

theorem LForm.later {w w' : World} {G d n : Nat} (h : LForm w G d n) (hb : Below w.heap.size w w') : LForm w' G d n :=
  ⟨Nat.lt_of_lt_of_le h.1 hb.size, fun p hp => by
    obtain ⟨ao, cap, hv, hf⟩ := h.2 p hp
    refine ⟨ao, cap, (hb.cell (p := ⟨G, p, none⟩) h.1).trans hv, fun h0 => ?_⟩
    obtain ⟨g, e, hg, hc⟩ := hf h0
    exact ⟨g, e, Nat.lt_of_lt_of_le hg hb.size, fun i hi => (hb.cell (p := ⟨g, i, none⟩) hg).trans (hc i hi)⟩⟩

/-- A slice of positions, nil or not. -/
def SForm (w : World) (u : Value) (L : List Nat) : Prop := ∃ (ao : Option Addr) (cap : Nat), u = .slice ao L.length cap ∧
  (0 < L.length → ∃ g, ao = some ⟨g, 0, none⟩ ∧ g < w.heap.size ∧ ∀ i, i < L.length → w.cell? ⟨g, i, none⟩ = some (.int .i64 (L.getD i 0 : Nat)))

theorem SForm.of {w : World} {B : Nat} {u : Value} {L : List Nat} (h : IntsAt w B u L) : SForm w u L := by
  rcases h with ⟨e, rfl⟩ | ⟨e, g, cap, rfl, _, h2, h3⟩
  · subst e
    exact ⟨none, 0, rfl, fun h0 => by simp at h0⟩
  · exact ⟨_, cap, rfl, fun _ => ⟨g, rfl, h2, h3⟩⟩

end Go.Proofs.Qxb6600850a
