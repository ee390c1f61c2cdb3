/- What a round of 'read' does to the memory: outside the walk. -/
import Derived.Test.Qxb6600850aReadMath
import Derived.Test.Qxb6600850aHas
import Derived.WalkSmall
namespace Go.Proofs.Qxb6600850a
open Go.RowKit
set_option linter.unusedVariables false

abbrev intsV (L : List Nat) : List Value := L.map fun x : Nat => Value.int .i64 x

structure RInv (w0 wr : World) (B d n : Nat) (K : Nat → List Nat) (T : Nat → Bool) (done stack : List Nat) (mv sv : Value) : Prop where
  inv : Inv d n K T done stack
  mem : wr.ownsRow B 3 1 mv (done.filter T).length (intsV (done.filter T))
  stk : wr.ownsRow B 3 1 sv stack.length (intsV stack)
  apart : mv.ownBlock = none ∨ mv.ownBlock ≠ sv.ownBlock
  below : Below B w0 wr
  nil : done.filter T = [] → mv = .slice none 0 0

theorem grownBy_below {w w1 : World} (h : Below w.heap.size w w1) (row : Option Nat) : w.grownBy w1 row := ⟨h.os, h.tape, h.output, h.size, fun k hk _ => h.block k hk⟩

theorem ownsRow_below {w w1 : World} {base : Nat} {e : TypeId} {size : Nat} {v : Value} {n : Nat} {xs : List Value} (h : w.ownsRow base e size v n xs) (hb : Below w.heap.size w w1) : w1.ownsRow base e size v n xs :=
  h.kept (grownBy_below hb none) (by cases hv : v.ownBlock <;> simp)

/-- The popped stack. -/
theorem popped {w : World} {B g cs v : Nat} {st : List Nat} (h : w.ownsRow B 3 1 (.slice (some ⟨g, 0, none⟩) (st ++ [v]).length cs) (st ++ [v]).length (intsV (st ++ [v]))) : w.ownsRow B 3 1 (.slice (some ⟨g, 0, none⟩) st.length cs) st.length (intsV st) := by
  have h' : w.ownsRow B 3 1 (.slice (some ⟨g, 0, none⟩) (st.length + 1) cs) (st.length + 1) (intsV st ++ intsV [v]) := by simpa [intsV] using h
  exact ownsRow_pop (by simp) h'

theorem top_cell {w : World} {B g cs v : Nat} {st : List Nat} (h : w.ownsRow B 3 1 (.slice (some ⟨g, 0, none⟩) (st ++ [v]).length cs) (st ++ [v]).length (intsV (st ++ [v]))) : w.cell? ⟨g, st.length, none⟩ = some (.int .i64 (v : Int)) := by
  rw [h.cellAt st.length (by simp)]
  simp [intsV]

theorem base_le {B d n : Nat} {K : Nat → List Nat} {T : Nat → Bool} {w0 wr : World} {done stack : List Nat} {mv sv : Value} (h : RInv w0 wr B d n K T done stack mv sv) (hB : B ≤ w0.heap.size) : B ≤ wr.heap.size := Nat.le_trans hB h.below.size

/-- A node is taken. -/
theorem step_taken {w0 wr w1 w2 : World} {B d n v g cs g' cp' : Nat} {K : Nat → List Nat} {T : Nat → Bool} {done st : List Nat} {mv : Value} {o : Obj} (hK : Kids d n K) (hB : B ≤ w0.heap.size)
    (h : RInv w0 wr B d n K T done (st ++ [v]) mv (.slice (some ⟨g, 0, none⟩) (st ++ [v]).length cs)) (hT : T v = true) (hb : Below wr.heap.size wr w1)
    (hgrow : (w1.alloc o).grownBy w2 mv.ownBlock)
    (hown : w2.ownsRow B 3 1 (.slice (some ⟨g', 0, none⟩) ((done.filter T).length + 1) cp') ((done.filter T).length + 1) (intsV (done.filter T) ++ [.int .i64 (v : Int)]))
    (hat : mv.ownBlock = some g' ∨ g' = w1.heap.size + 1) :
    RInv w0 w2 B d n K T (done ++ [v]) (st ++ nxt K T v) (.slice (some ⟨g', 0, none⟩) ((done.filter T).length + 1) cp') (.slice (some ⟨g, 0, none⟩) st.length cs) := by
  have hn : nxt K T v = [] := by unfold nxt; rw [if_pos hT]
  have hinv := inv_step hK h.inv
  have hg : g < wr.heap.size := (h.stk.lt g rfl).2
  have hg1 : B ≤ g := (h.stk.lt g rfl).1
  have hap : mv.ownBlock ≠ some g := by
    rcases h.apart with e | e
    · rw [e]; simp
    · exact e
  have hfl : (done ++ [v]).filter T = done.filter T ++ [v] := by simp [List.filter_append, hT]
  have hBw := base_le h hB
  refine ⟨hinv, ?_, ?_, ?_, ?_, fun h0 => by rw [hfl] at h0; simp at h0⟩
  · rw [hfl]
    simpa [intsV] using hown
  · rw [hn, List.append_nil]
    exact ((ownsRow_below (popped h.stk) hb).alloc o).kept hgrow (.inr (fun e => hap e.symm))
  · right
    show some g' ≠ some g
    rcases hat with e | e
    · rw [← e]; exact hap
    · have := hb.size
      simp; omega
  · refine ((h.below.trans (hb.mono hBw)).alloc (by have := hb.size; omega) o).grown hgrow (by have := hb.size; simp; omega) (fun k hk => (h.mem.lt k hk).1)

/-- A node is not taken: its chosen children are pushed. -/
theorem step_pushed {w0 wr w1 w2 : World} {B d n v g cs g' cs' : Nat} {K : Nat → List Nat} {T : Nat → Bool} {done st : List Nat} {mv : Value} (hK : Kids d n K) (hB : B ≤ w0.heap.size)
    (h : RInv w0 wr B d n K T done (st ++ [v]) mv (.slice (some ⟨g, 0, none⟩) (st ++ [v]).length cs)) (hT : T v = false) (hb : Below wr.heap.size wr w1)
    (hgrow : w1.grownBy w2 (some g))
    (hown : w2.ownsRow B 3 1 (.slice (some ⟨g', 0, none⟩) (st.length + (K v).length) cs') (st.length + (K v).length) (intsV st ++ intsV (K v)))
    (hat : some g = some g' ∨ g' = w1.heap.size) :
    RInv w0 w2 B d n K T (done ++ [v]) (st ++ nxt K T v) mv (.slice (some ⟨g', 0, none⟩) (st.length + (K v).length) cs') := by
  have hn : nxt K T v = K v := by unfold nxt; rw [if_neg (by simp [hT])]
  have hinv := inv_step hK h.inv
  have hg1 : B ≤ g := (h.stk.lt g rfl).1
  have hap : mv.ownBlock ≠ some g := by
    rcases h.apart with e | e
    · rw [e]; simp
    · exact e
  have hfl : (done ++ [v]).filter T = done.filter T := by simp [List.filter_append, hT]
  have hBw := base_le h hB
  refine ⟨hinv, ?_, ?_, ?_, ?_, fun h0 => h.nil (by rw [hfl] at h0; exact h0)⟩
  · rw [hfl]
    exact (ownsRow_below h.mem hb).kept hgrow (.inr hap)
  · rw [hn]
    simpa [intsV] using hown
  · cases hv : mv.ownBlock with
    | none => exact .inl rfl
    | some x =>
      right
      show some x ≠ some g'
      have hx := (h.mem.lt x hv).2
      rcases hat with e | e
      · rw [← e, ← hv]; exact hap
      · have := hb.size
        simp; omega
  · exact (h.below.trans (hb.mono hBw)).grown hgrow (by have := hb.size; omega) (fun k hk => by cases hk; exact hg1)

/-- A node is not taken and chose none. -/
theorem step_none {w0 wr w1 : World} {B d n v g cs : Nat} {K : Nat → List Nat} {T : Nat → Bool} {done st : List Nat} {mv : Value} (hK : Kids d n K) (hB : B ≤ w0.heap.size)
    (h : RInv w0 wr B d n K T done (st ++ [v]) mv (.slice (some ⟨g, 0, none⟩) (st ++ [v]).length cs)) (hT : T v = false) (hKv : K v = []) (hb : Below wr.heap.size wr w1) :
    RInv w0 w1 B d n K T (done ++ [v]) (st ++ nxt K T v) mv (.slice (some ⟨g, 0, none⟩) st.length cs) := by
  have hn : nxt K T v = [] := by unfold nxt; rw [if_neg (by simp [hT]), hKv]
  have hinv := inv_step hK h.inv
  have hfl : (done ++ [v]).filter T = done.filter T := by simp [List.filter_append, hT]
  have hBw := base_le h hB
  refine ⟨hinv, ?_, ?_, ?_, h.below.trans (hb.mono hBw), fun h0 => h.nil (by rw [hfl] at h0; exact h0)⟩
  · rw [hfl]
    exact ownsRow_below h.mem hb
  · rw [hn, List.append_nil]
    exact ownsRow_below (popped h.stk) hb
  · exact h.apart

end Go.Proofs.Qxb6600850a
