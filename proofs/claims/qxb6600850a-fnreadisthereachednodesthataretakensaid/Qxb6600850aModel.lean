/- modelKidsQB1 (function 12). -/
import Derived.Test.Qxb6600850aProg
import Derived.Test.Qxb6600850aListsMath
import Derived.Test.Qxb6600850aKids
namespace Go.Proofs.Qxb6600850a
open Go.RowKit
set_option linter.unusedVariables false

/-- The marked ones among the a-th to the (b-1)-th from F on. -/
def seg (F : Nat) (h : Nat → Bool) (a b : Nat) : List Nat := ((List.range (b - a)).map fun j => F + (a + j)).filter h

theorem seg_nil (F : Nat) (h : Nat → Bool) (a : Nat) : seg F h a a = [] := by simp [seg]

theorem seg_succ {F : Nat} {h : Nat → Bool} {a b : Nat} (hab : a ≤ b) : seg F h a (b + 1) = seg F h a b ++ if h (F + b) then [F + b] else [] := by
  unfold seg
  rw [show b + 1 - a = (b - a) + 1 by omega, List.range_succ, List.map_append, List.filter_append, List.map_singleton, show a + (b - a) = b by omega]
  by_cases e : h (F + b) <;> simp [e]

theorem seg_length (F : Nat) (h : Nat → Bool) (a b : Nat) : (seg F h a b).length ≤ b - a := by
  unfold seg
  exact Nat.le_trans (List.length_filter_le _ _) (by simp)

theorem seg_kord {F C s : Nat} (h : Nat → Bool) (hs : s < C) : seg F h s C ++ seg F h 0 s = (kord F C s).filter h := by
  rw [kord_rot F C s hs, List.filter_append]
  congr 1
  · unfold seg
    congr 1
    rw [← List.map_drop]
    apply List.ext_getElem
    · simp
    · intro i h1 h2; simp
  · unfold seg
    congr 1
    rw [← List.map_take]
    apply List.ext_getElem
    · simp; omega
    · intro i h1 h2; simp

/-- A SLICE OF POSITIONS THAT CAN BE READ: nil where the list is empty; else its cells lie at the head of a block from B on. -/
def IntsAt (w : World) (B : Nat) (v : Value) (L : List Nat) : Prop :=
  (L = [] ∧ v = .slice none 0 0) ∨ (L ≠ [] ∧ ∃ g cap, v = .slice (some ⟨g, 0, none⟩) L.length cap ∧ B ≤ g ∧ g < w.heap.size ∧ ∀ i, i < L.length → w.cell? ⟨g, i, none⟩ = some (.int .i64 (L.getD i 0 : Nat)))

theorem IsInts.at {w : World} {B : Nat} {v : Value} {L : List Nat} (h : IsInts w B v L) : IntsAt w B v L := by
  rcases h with h | ⟨h1, g, h2, h3, h4⟩
  · exact .inl h
  · exact .inr ⟨h1, g, _, h2, h3, h4.lt, fun i hi => h4.cell hi⟩

theorem IntsAt.below {w w' : World} {B : Nat} {v : Value} {L : List Nat} (h : IntsAt w B v L) (hb : Below w.heap.size w w') : IntsAt w' B v L := by
  rcases h with h | ⟨h1, g, cap, h2, h3, h4, h5⟩
  · exact .inl h
  · exact .inr ⟨h1, g, cap, h2, h3, Nat.lt_of_lt_of_le h4 hb.size, fun i hi => (hb.cell (p := ⟨g, i, none⟩) h4).trans (h5 i hi)⟩

theorem IntsAt.mono {w : World} {B B' : Nat} {v : Value} {L : List Nat} (h : IntsAt w B v L) (hB : B' ≤ B) : IntsAt w B' v L := by
  rcases h with h | ⟨h1, g, cap, h2, h3, h4, h5⟩
  · exact .inl h
  · exact .inr ⟨h1, g, cap, h2, by omega, h4, h5⟩

/-- The cells of an owned row. -/
theorem own_cells {w : World} {base g n cap : Nat} {L : List Nat} (h : w.ownsRow base 3 1 (.slice (some ⟨g, 0, none⟩) n cap) n (L.map fun x : Nat => Value.int .i64 x)) : base ≤ g ∧ g < w.heap.size ∧ L.length = n ∧ ∀ i, i < L.length → w.cell? ⟨g, i, none⟩ = some (.int .i64 (L.getD i 0 : Nat)) := by
  have hl : L.length = n := by simpa using h.1
  refine ⟨(h.lt g rfl).1, (h.lt g rfl).2, hl, fun i hi => ?_⟩
  rw [h.cellAt i (by omega)]
  simp [List.getElem?_eq_getElem hi, List.getD]

theorem own_cap {w : World} {base g n cap : Nat} {xs : List Value} (h : w.ownsRow base 3 1 (.slice (some ⟨g, 0, none⟩) n cap) n xs) : n ≤ cap ∧ cap ≤ maxLen := by
  rcases h.2 with ⟨h', _⟩ | ⟨g', cap', cur, h', _, _, h1, h2, _⟩
  · simp at h'
  · simp only [Value.slice.injEq, Option.some.injEq, Addr.mk.injEq, and_true, true_and] at h'
    obtain ⟨rfl, rfl⟩ := h'
    exact ⟨h1, h2⟩

theorem intsAt_take {w : World} {B g m cap : Nat} {M : List Nat} (h : w.ownsRow B 3 1 (.slice (some ⟨g, 0, none⟩) M.length cap) M.length (M.map fun x : Nat => Value.int .i64 x)) (h0 : 0 < m) (hm : m ≤ M.length) : IntsAt w B (.slice (some ⟨g, 0, none⟩) m cap) (M.take m) := by
  obtain ⟨h1, h2, _, h4⟩ := own_cells h
  have hl : (M.take m).length = m := by simp; omega
  refine .inr ⟨fun e => by rw [e] at hl; simp at hl; omega, g, cap, by rw [hl], h1, h2, fun i hi => ?_⟩
  rw [h4 i (by omega)]
  congr 3
  simp [List.getD, show i < m by omega]

set_option maxHeartbeats 400000 in
theorem model_nil (hg n : Nat) (home : Nat) (way : Int) (w : World) :
    Calls Try.prog 12 #[.slice none 0 0, .slice (some ⟨hg, 0, none⟩) n n, .int .i64 home, .int .i64 way] w fun e w' => e = .returned (.slice none 0 0) ∧ w = w' := by
  go_enter Try.func12, Try.ntmps12
  go_wp2
  go_ret
  exact ⟨rfl, rfl⟩

/-- One more, appended to what is owned. -/
theorem model_more {w wr w1 : World} {o : Obj} {L : List Nat} {x : Nat} {v : Value} (hB : Below w.heap.size w wr) (hr : ∀ k, v.ownBlock = some k → w.heap.size ≤ k) (hgrow : (wr.alloc o).grownBy w1 v.ownBlock) : Below w.heap.size w w1 :=
  (hB.alloc hB.size o).grown hgrow (by have := hB.size; simp; omega) hr

set_option maxRecDepth 100000 in
set_option maxHeartbeats 1000000 in
theorem model_some (hg n cg cap F C home s : Nat) (way : Int) (h : Nat → Bool) (w : World) (hn : n ≤ 65536) (h0 : 0 < C) (hFC : F + C ≤ n) (hs : s < C) (hh : home ≤ 65536)
    (hhg : hg < w.heap.size) (hcg : cg < w.heap.size) (hch : ∀ i, i < n → w.cell? ⟨hg, i, none⟩ = some (.bool (h i))) (hcc : ∀ i, i < C → w.cell? ⟨cg, i, none⟩ = some (.int .i64 ((F + i : Nat) : Int)))
    (hway : (way = -1 ∧ home % C = s) ∨ way = ((F + s : Nat) : Int)) :
    Calls Try.prog 12 #[.slice (some ⟨cg, 0, none⟩) C cap, .slice (some ⟨hg, 0, none⟩) n n, .int .i64 home, .int .i64 way] w fun e w' =>
      ∃ u, e = .returned u ∧ IntsAt w' w.heap.size u (pick F C s h) ∧ Below w.heap.size w w' := by
  obtain ⟨i0, hi, hz0, hz1, hz2⟩ := info_parts Try.info3
  have hCn : ((C : Int) == 0) = false := by simp; omega
  obtain ⟨r, hr⟩ : ∃ r, home % C = r := ⟨_, rfl⟩
  have hrC : r < C := by rw [← hr]; exact Nat.mod_lt _ h0
  have hrI : (home : Int) % (C : Int) = (r : Int) := by rw [← hr]; simp
  rw [hr] at hway
  clear hr
  obtain ⟨m, hm⟩ : ∃ m, C / 2 + 1 = m := ⟨_, rfl⟩
  have hmI : (C : Int) / 2 + 1 = (m : Int) := by omega
  have hmC : m ≤ C := by omega
  have Hm : Hid (C / 2 + 1 = m) := hm
  clear hm
  rcases hway with ⟨rfl, hrs⟩ | rfl
  · obtain rfl : s = r := hrs.symm
    go_enter Try.func12, Try.ntmps12
    go_wp2
    go_loopw [13, 14] (fun v i wr => ∃ k : Nat, ∃ ao : Option Addr, ∃ cp : Nat, s ≤ k ∧ k ≤ C ∧ i = .int .i64 k ∧ v = .slice ao (seg F h s k).length cp ∧ wr.ownsRow w.heap.size 3 1 (.slice ao (seg F h s k).length cp) (seg F h s k).length ((seg F h s k).map fun x : Nat => Value.int .i64 x) ∧ Below w.heap.size w wr) (fun _ i _ => C - (intOf i).toNat)
    case atStart => exact ⟨s, none, 0, Nat.le_refl _, by omega, rfl, by rw [seg_nil]; rfl, by rw [seg_nil]; exact World.ownsRow_nil _ _ _ _, Below.refl _ _⟩
    case round =>
      obtain ⟨k, ao, cp, hk1, hk, rfl, rfl, hown, hbel⟩ := hrel
      have hl := seg_length F h s k
      by_cases hlt : k < C
      · have hc1 : wr.cell? ⟨cg, k, none⟩ = some (.int .i64 ((F : Int) + (k : Int))) := (hbel.cell (p := ⟨cg, k, none⟩) hcg).trans (by simpa using hcc k hlt)
        have hc2 : wr.cell? ⟨hg, F + k, none⟩ = some (.bool (h (F + k))) := (hbel.cell (p := ⟨hg, F + k, none⟩) hhg).trans (hch (F + k) (by omega))
        have hsucc := seg_succ (F := F) (h := h) hk1
        obtain ⟨L, hL⟩ : ∃ L, seg F h s k = L := ⟨_, rfl⟩
        rw [hL] at hown hsucc hl ⊢
        clear hL
        by_cases hx : h (F + k) = true
        · rw [if_pos hx] at hsucc
          rw [hx] at hc2
          have HS : Hid (seg F h s (k + 1) = L ++ [F + k]) := hsucc
          clear hsucc
          go_wp2_with (at_builtin; refine wpList_append_lies _ rfl _ _ 27 rfl w.heap.size 3 i0 (.int .i64 0) 1 8 Try.underlying27 hi hz0 hz1 hz2 rfl (by omega) (.slice ao L.length cp) L.length _ rfl (hown.alloc _) ⟨wr.heap.size, 0, none⟩ 1 1 [.int .i64 ((F : Int) + (k : Int))] rfl rfl (cell_one_new _ _ _) (by intro u hu; simp at hu; subst hu; rfl) (by omega) (by unfold maxLen; omega) (by omega) (by have := hbel.size; simp; omega) (wr.heap.size + 1) (by simp) ?_; intro g cp1 w1 hown1 hgrow hat hlt1)
          go_roundw
          case rel =>
            rw [map_snoc] at hown1
            refine ⟨k + 1, some ⟨g, 0, none⟩, cp1, by omega, by omega, by go_num, ?_, ?_, model_more (x := 0) (L := L) hbel (fun j hj => (hown.lt j hj).1) hgrow⟩
            · rw [HS.out]; simp
            · rw [HS.out]; simpa using hown1
          case measure => simp [intOf]; omega
        · have hx' : h (F + k) = false := by simpa using hx
          rw [if_neg hx, List.append_nil] at hsucc
          rw [hx'] at hc2
          have HS : Hid (seg F h s (k + 1) = L) := hsucc
          clear hsucc hx
          go_wp2
          go_roundw
          case rel => exact ⟨k + 1, ao, cp, by omega, by omega, by go_num, by rw [HS.out], by rw [HS.out]; exact hown, hbel⟩
          case measure => simp [intOf]; omega
      · obtain rfl : k = C := by omega
        clear hlt hk
        obtain ⟨L, hL⟩ : ∃ L, seg F h s k = L := ⟨_, rfl⟩
        rw [hL] at hown hl ⊢
        have HL : Hid (seg F h s k = L) := hL
        clear hL
        go_wp2
        go_loopw [13, 15] (fun v i wr => ∃ j : Nat, ∃ ao : Option Addr, ∃ cp : Nat, j ≤ s ∧ i = .int .i64 j ∧ v = .slice ao (L ++ seg F h 0 j).length cp ∧ wr.ownsRow w.heap.size 3 1 (.slice ao (L ++ seg F h 0 j).length cp) (L ++ seg F h 0 j).length ((L ++ seg F h 0 j).map fun x : Nat => Value.int .i64 x) ∧ Below w.heap.size w wr) (fun _ i _ => s - (intOf i).toNat)
        case atStart => exact ⟨0, ao, cp, Nat.zero_le _, rfl, by rw [seg_nil, List.append_nil], by rw [seg_nil, List.append_nil]; exact hown, hbel⟩
        case round =>
          clear hown hbel
          obtain ⟨j, ao, cp, hj, rfl, rfl, hown, hbel⟩ := hrel
          have hl2 := seg_length F h 0 j
          have hl3 : (L ++ seg F h 0 j).length ≤ k := by simp; omega
          by_cases hlt : j < s
          · have hc1 : wr.cell? ⟨cg, j, none⟩ = some (.int .i64 ((F : Int) + (j : Int))) := (hbel.cell (p := ⟨cg, j, none⟩) hcg).trans (by simpa using hcc j (by omega))
            have hc2 : wr.cell? ⟨hg, F + j, none⟩ = some (.bool (h (F + j))) := (hbel.cell (p := ⟨hg, F + j, none⟩) hhg).trans (hch (F + j) (by omega))
            have hsucc := seg_succ (F := F) (h := h) (Nat.zero_le j)
            by_cases hx : h (F + j) = true
            · rw [if_pos hx] at hsucc
              rw [hx] at hc2
              have HS : Hid (L ++ seg F h 0 (j + 1) = (L ++ seg F h 0 j) ++ [F + j]) := by show L ++ seg F h 0 (j + 1) = _; rw [hsucc, List.append_assoc]
              clear hsucc hl2
              obtain ⟨M, hM⟩ : ∃ M, L ++ seg F h 0 j = M := ⟨_, rfl⟩
              rw [hM] at hown hl3 HS ⊢
              clear hM
              go_wp2_with (at_builtin; refine wpList_append_lies _ rfl _ _ 27 rfl w.heap.size 3 i0 (.int .i64 0) 1 8 Try.underlying27 hi hz0 hz1 hz2 rfl (by omega) (.slice ao M.length cp) M.length _ rfl (hown.alloc _) ⟨wr.heap.size, 0, none⟩ 1 1 [.int .i64 ((F : Int) + (j : Int))] rfl rfl (cell_one_new _ _ _) (by intro u hu; simp at hu; subst hu; rfl) (by omega) (by unfold maxLen; omega) (by omega) (by have := hbel.size; simp; omega) (wr.heap.size + 1) (by simp) ?_; intro g cp1 w1 hown1 hgrow hat hlt1)
              go_roundw
              case rel =>
                rw [map_snoc] at hown1
                refine ⟨j + 1, some ⟨g, 0, none⟩, cp1, by omega, by go_num, ?_, ?_, model_more (x := 0) (L := L) hbel (fun j hj => (hown.lt j hj).1) hgrow⟩
                · rw [HS.out]; simp
                · rw [HS.out]; simpa using hown1
              case measure => simp [intOf]; omega
            · have hx' : h (F + j) = false := by simpa using hx
              rw [if_neg hx, List.append_nil] at hsucc
              rw [hx'] at hc2
              have HS : Hid (L ++ seg F h 0 (j + 1) = L ++ seg F h 0 j) := by show L ++ seg F h 0 (j + 1) = _; rw [hsucc]
              clear hsucc hx hl2
              obtain ⟨M, hM⟩ : ∃ M, L ++ seg F h 0 j = M := ⟨_, rfl⟩
              rw [hM] at hown hl3 HS ⊢
              clear hM
              go_wp2
              go_roundw
              case rel => exact ⟨j + 1, ao, cp, by omega, by go_num, by rw [HS.out], by rw [HS.out]; exact hown, hbel⟩
              case measure => simp [intOf]; omega
          · obtain rfl : j = s := by omega
            have hfin : L ++ seg F h 0 j = (kord F k j).filter h := by rw [← HL.out]; exact seg_kord h hs
            rw [hfin] at hown hl3 ⊢
            clear hfin HL hl hl2 hlt
            obtain ⟨M, hM⟩ : ∃ M, (kord F k j).filter h = M := ⟨_, rfl⟩
            have hpick : pick F k j h = if M.length < m then [] else M.take m := by unfold pick; rw [hM, Hm.out]
            rw [hM] at hown hl3 ⊢
            clear hM
            by_cases hlm : M.length < m
            · rw [if_pos hlm] at hpick
              have HP : Hid (pick F k j h = []) := hpick
              clear hpick
              go_wp2
              go_ret
              exact ⟨_, rfl, .inl ⟨HP.out, rfl⟩, hbel⟩
            · rw [if_neg hlm] at hpick
              have HP : Hid (pick F k j h = M.take m) := hpick
              clear hpick
              have hm0 : 0 < m := by have := Hm.out; omega
              obtain ⟨g, cap', hv, hg1, hg2⟩ := hown.form (by omega)
              simp only [Value.slice.injEq, true_and] at hv
              obtain ⟨rfl, rfl⟩ := hv
              have hmM : m ≤ M.length := by omega
              have hMc := own_cap hown
              go_wp2
              go_ret
              refine ⟨_, rfl, ?_, hbel⟩
              rw [HP.out]
              exact intsAt_take hown hm0 hmM
  · go_enter Try.func12, Try.ntmps12
    go_wp2
    go_loop [10, 11] (fun sv i => ∃ k : Nat, ∃ q : Nat, k ≤ C ∧ i = .int .i64 k ∧ sv = .int .i64 q ∧ (s < k → q = s)) (fun _ i => C - (intOf i).toNat)
    case atStart => exact ⟨0, r, Nat.zero_le _, rfl, by rw [hrI], fun h => by omega⟩
    case round =>
      obtain ⟨k, q, hk, rfl, rfl, hq⟩ := hrel
      by_cases hlt : k < C
      · have hc1 := hcc k hlt
        by_cases e : k = s
        · have ee : (((F + k : Nat) : Int) == ((F + s : Nat) : Int)) = true := by simp; omega
          clear hq
          subst e
          go_wp2
          go_round
          case rel => exact ⟨k + 1, k, by omega, by go_num, rfl, fun _ => rfl⟩
          case measure => simp [intOf]; omega
        · have ee : (((F : Int) + (k : Int)) == ((F : Int) + (s : Int))) = false := by simp; omega
          have Hq : Hid (s < k → q = s) := hq
          clear hq
          go_wp2
          go_round
          case rel => exact ⟨k + 1, q, by omega, by go_num, rfl, fun h => Hq.out (by omega)⟩
          case measure => simp [intOf]; omega
      · obtain rfl : s = q := (hq (by omega)).symm
        clear hq
        go_wp2
        clear hlt hk
        go_loopw [13, 14] (fun v i wr => ∃ k : Nat, ∃ ao : Option Addr, ∃ cp : Nat, s ≤ k ∧ k ≤ C ∧ i = .int .i64 k ∧ v = .slice ao (seg F h s k).length cp ∧ wr.ownsRow w.heap.size 3 1 (.slice ao (seg F h s k).length cp) (seg F h s k).length ((seg F h s k).map fun x : Nat => Value.int .i64 x) ∧ Below w.heap.size w wr) (fun _ i _ => C - (intOf i).toNat)
        case atStart => exact ⟨s, none, 0, Nat.le_refl _, by omega, rfl, by rw [seg_nil]; rfl, by rw [seg_nil]; exact World.ownsRow_nil _ _ _ _, Below.refl _ _⟩
        case round =>
          obtain ⟨k, ao, cp, hk1, hk, rfl, rfl, hown, hbel⟩ := hrel
          have hl := seg_length F h s k
          by_cases hlt : k < C
          · have hc1 : wr.cell? ⟨cg, k, none⟩ = some (.int .i64 ((F : Int) + (k : Int))) := (hbel.cell (p := ⟨cg, k, none⟩) hcg).trans (by simpa using hcc k hlt)
            have hc2 : wr.cell? ⟨hg, F + k, none⟩ = some (.bool (h (F + k))) := (hbel.cell (p := ⟨hg, F + k, none⟩) hhg).trans (hch (F + k) (by omega))
            have hsucc := seg_succ (F := F) (h := h) hk1
            obtain ⟨L, hL⟩ : ∃ L, seg F h s k = L := ⟨_, rfl⟩
            rw [hL] at hown hsucc hl ⊢
            clear hL
            by_cases hx : h (F + k) = true
            · rw [if_pos hx] at hsucc
              rw [hx] at hc2
              have HS : Hid (seg F h s (k + 1) = L ++ [F + k]) := hsucc
              clear hsucc
              go_wp2_with (at_builtin; refine wpList_append_lies _ rfl _ _ 27 rfl w.heap.size 3 i0 (.int .i64 0) 1 8 Try.underlying27 hi hz0 hz1 hz2 rfl (by omega) (.slice ao L.length cp) L.length _ rfl (hown.alloc _) ⟨wr.heap.size, 0, none⟩ 1 1 [.int .i64 ((F : Int) + (k : Int))] rfl rfl (cell_one_new _ _ _) (by intro u hu; simp at hu; subst hu; rfl) (by omega) (by unfold maxLen; omega) (by omega) (by have := hbel.size; simp; omega) (wr.heap.size + 1) (by simp) ?_; intro g cp1 w1 hown1 hgrow hat hlt1)
              go_roundw
              case rel =>
                rw [map_snoc] at hown1
                refine ⟨k + 1, some ⟨g, 0, none⟩, cp1, by omega, by omega, by go_num, ?_, ?_, model_more (x := 0) (L := L) hbel (fun j hj => (hown.lt j hj).1) hgrow⟩
                · rw [HS.out]; simp
                · rw [HS.out]; simpa using hown1
              case measure => simp [intOf]; omega
            · have hx' : h (F + k) = false := by simpa using hx
              rw [if_neg hx, List.append_nil] at hsucc
              rw [hx'] at hc2
              have HS : Hid (seg F h s (k + 1) = L) := hsucc
              clear hsucc hx
              go_wp2
              go_roundw
              case rel => exact ⟨k + 1, ao, cp, by omega, by omega, by go_num, by rw [HS.out], by rw [HS.out]; exact hown, hbel⟩
              case measure => simp [intOf]; omega
          · obtain rfl : k = C := by omega
            clear hlt hk
            obtain ⟨L, hL⟩ : ∃ L, seg F h s k = L := ⟨_, rfl⟩
            rw [hL] at hown hl ⊢
            have HL : Hid (seg F h s k = L) := hL
            clear hL
            go_wp2
            go_loopw [13, 15] (fun v i wr => ∃ j : Nat, ∃ ao : Option Addr, ∃ cp : Nat, j ≤ s ∧ i = .int .i64 j ∧ v = .slice ao (L ++ seg F h 0 j).length cp ∧ wr.ownsRow w.heap.size 3 1 (.slice ao (L ++ seg F h 0 j).length cp) (L ++ seg F h 0 j).length ((L ++ seg F h 0 j).map fun x : Nat => Value.int .i64 x) ∧ Below w.heap.size w wr) (fun _ i _ => s - (intOf i).toNat)
            case atStart => exact ⟨0, ao, cp, Nat.zero_le _, rfl, by rw [seg_nil, List.append_nil], by rw [seg_nil, List.append_nil]; exact hown, hbel⟩
            case round =>
              clear hown hbel
              obtain ⟨j, ao, cp, hj, rfl, rfl, hown, hbel⟩ := hrel
              have hl2 := seg_length F h 0 j
              have hl3 : (L ++ seg F h 0 j).length ≤ k := by simp; omega
              by_cases hlt : j < s
              · have hc1 : wr.cell? ⟨cg, j, none⟩ = some (.int .i64 ((F : Int) + (j : Int))) := (hbel.cell (p := ⟨cg, j, none⟩) hcg).trans (by simpa using hcc j (by omega))
                have hc2 : wr.cell? ⟨hg, F + j, none⟩ = some (.bool (h (F + j))) := (hbel.cell (p := ⟨hg, F + j, none⟩) hhg).trans (hch (F + j) (by omega))
                have hsucc := seg_succ (F := F) (h := h) (Nat.zero_le j)
                by_cases hx : h (F + j) = true
                · rw [if_pos hx] at hsucc
                  rw [hx] at hc2
                  have HS : Hid (L ++ seg F h 0 (j + 1) = (L ++ seg F h 0 j) ++ [F + j]) := by show L ++ seg F h 0 (j + 1) = _; rw [hsucc, List.append_assoc]
                  clear hsucc hl2
                  obtain ⟨M, hM⟩ : ∃ M, L ++ seg F h 0 j = M := ⟨_, rfl⟩
                  rw [hM] at hown hl3 HS ⊢
                  clear hM
                  go_wp2_with (at_builtin; refine wpList_append_lies _ rfl _ _ 27 rfl w.heap.size 3 i0 (.int .i64 0) 1 8 Try.underlying27 hi hz0 hz1 hz2 rfl (by omega) (.slice ao M.length cp) M.length _ rfl (hown.alloc _) ⟨wr.heap.size, 0, none⟩ 1 1 [.int .i64 ((F : Int) + (j : Int))] rfl rfl (cell_one_new _ _ _) (by intro u hu; simp at hu; subst hu; rfl) (by omega) (by unfold maxLen; omega) (by omega) (by have := hbel.size; simp; omega) (wr.heap.size + 1) (by simp) ?_; intro g cp1 w1 hown1 hgrow hat hlt1)
                  go_roundw
                  case rel =>
                    rw [map_snoc] at hown1
                    refine ⟨j + 1, some ⟨g, 0, none⟩, cp1, by omega, by go_num, ?_, ?_, model_more (x := 0) (L := L) hbel (fun j hj => (hown.lt j hj).1) hgrow⟩
                    · rw [HS.out]; simp
                    · rw [HS.out]; simpa using hown1
                  case measure => simp [intOf]; omega
                · have hx' : h (F + j) = false := by simpa using hx
                  rw [if_neg hx, List.append_nil] at hsucc
                  rw [hx'] at hc2
                  have HS : Hid (L ++ seg F h 0 (j + 1) = L ++ seg F h 0 j) := by show L ++ seg F h 0 (j + 1) = _; rw [hsucc]
                  clear hsucc hx hl2
                  obtain ⟨M, hM⟩ : ∃ M, L ++ seg F h 0 j = M := ⟨_, rfl⟩
                  rw [hM] at hown hl3 HS ⊢
                  clear hM
                  go_wp2
                  go_roundw
                  case rel => exact ⟨j + 1, ao, cp, by omega, by go_num, by rw [HS.out], by rw [HS.out]; exact hown, hbel⟩
                  case measure => simp [intOf]; omega
              · obtain rfl : j = s := by omega
                have hfin : L ++ seg F h 0 j = (kord F k j).filter h := by rw [← HL.out]; exact seg_kord h hs
                rw [hfin] at hown hl3 ⊢
                clear hfin HL hl hl2 hlt
                obtain ⟨M, hM⟩ : ∃ M, (kord F k j).filter h = M := ⟨_, rfl⟩
                have hpick : pick F k j h = if M.length < m then [] else M.take m := by unfold pick; rw [hM, Hm.out]
                rw [hM] at hown hl3 ⊢
                clear hM
                by_cases hlm : M.length < m
                · rw [if_pos hlm] at hpick
                  have HP : Hid (pick F k j h = []) := hpick
                  clear hpick
                  go_wp2
                  go_ret
                  exact ⟨_, rfl, .inl ⟨HP.out, rfl⟩, hbel⟩
                · rw [if_neg hlm] at hpick
                  have HP : Hid (pick F k j h = M.take m) := hpick
                  clear hpick
                  have hm0 : 0 < m := by have := Hm.out; omega
                  obtain ⟨g, cap', hv, hg1, hg2⟩ := hown.form (by omega)
                  simp only [Value.slice.injEq, true_and] at hv
                  obtain ⟨rfl, rfl⟩ := hv
                  have hmM : m ≤ M.length := by omega
                  have hMc := own_cap hown
                  go_wp2
                  go_ret
                  refine ⟨_, rfl, ?_, hbel⟩
                  rw [HP.out]
                  exact intsAt_take hown hm0 hmM
end Go.Proofs.Qxb6600850a
