/- (picker).kids (function 28), ZZKids (15). -/
import Derived.Test.Qxb6600850aChildren
namespace Go.Proofs.Qxb6600850a
open Go.RowKit
set_option linter.unusedVariables false

/-- WHAT A SLICE OF POSITIONS LOOKS LIKE THAT A CALL HAS MADE: nil where the list is empty; else a row of its own, full. -/
def IsInts (w : World) (B : Nat) (v : Value) (L : List Nat) : Prop :=
  (L = [] ∧ v = .slice none 0 0) ∨ (L ≠ [] ∧ ∃ g, v = .slice (some ⟨g, 0, none⟩) L.length L.length ∧ B ≤ g ∧ w.rowIs g 3 L.length (fun i => .int .i64 (L.getD i 0)))

abbrev pkr (d n : Nat) (lv : Value) (home : Nat) (tv : Value) : Value := .agg #[.int .i64 d, .int .i64 n, lv, .slice none 0 0, .slice none 0 0, .int .i64 home, tv]

set_option maxHeartbeats 400000 in
theorem kids_leaf (d n home v : Nat) (la : Option Addr) (ll lc : Nat) (tg : Nat) (hv : Value) (w : World) (hd : 1 ≤ d) (hd2 : d ≤ 9223372036854775807) (hn : n ≤ 65536) (hvn : v < n) (hC : cnt d n v = 0) :
    Calls Try.prog 28 #[pkr d n (.slice la ll lc) home (.slice (some ⟨tg, 0, none⟩) n n), .int .i64 v, hv] w fun e w' =>
      e = .returned (.slice none 0 0) ∧ Below w.heap.size w w' := by
  obtain ⟨F, _, hF, hch⟩ := children_any d n v hd hd2 hn hvn
  rw [hC] at hch hF
  go_enter Try.func28, Try.ntmps28
  go_wp2_with (go_at_call 30; refine (hch _).mono ?_; rintro e w' ⟨rfl, hb⟩)
  go_ret
  exact ⟨rfl, below_box (by simpa using hb)⟩

/-- What is there behind the call of 'children'. -/
theorem kids_after {w w1 : World} {d n home v tg hg : Nat} {la : Option Addr} {ll lc : Nat} {h : Nat → Bool} {t : Int} (htg : tg < w.heap.size) (hhg : hg < w.heap.size) (hct : w.cell? ⟨tg, v, none⟩ = some (.int .i64 t)) (hch : ∀ i, i < n → w.cell? ⟨hg, i, none⟩ = some (.bool (h i)))
    (hb : Below (w.alloc (.cells #[.int .i64 d, .int .i64 n, .slice la ll lc, .slice none 0 0, .slice none 0 0, .int .i64 home, .slice (some ⟨tg, 0, none⟩) n n] 47)).heap.size (w.alloc (.cells #[.int .i64 d, .int .i64 n, .slice la ll lc, .slice none 0 0, .slice none 0 0, .int .i64 home, .slice (some ⟨tg, 0, none⟩) n n] 47)) w1) :
    w1.cell? ⟨w.heap.size, 5, none⟩ = some (.int .i64 home) ∧ w1.cell? ⟨w.heap.size, 6, none⟩ = some (.slice (some ⟨tg, 0, none⟩) n n) ∧ w1.cell? ⟨tg, v, none⟩ = some (.int .i64 t) ∧ (∀ i, i < n → w1.cell? ⟨hg, i, none⟩ = some (.bool (h i))) ∧ w.heap.size < w1.heap.size := by
  have B := below_box (by simpa using hb)
  refine ⟨?_, ?_, (B.cell (p := ⟨tg, v, none⟩) htg).trans hct, fun i hi => (B.cell (p := ⟨hg, i, none⟩) hhg).trans (hch i hi), ?_⟩
  · exact (hb.cell (p := ⟨w.heap.size, 5, none⟩) (by simp)).trans (by simp)
  · exact (hb.cell (p := ⟨w.heap.size, 6, none⟩) (by simp)).trans (by simp)
  · have := hb.size
    simp at this
    omega

theorem below_appended {w1 wr w3 : World} {o : Obj} {g : Nat} (hg : w1.heap.size ≤ g) (hbel : Below w1.heap.size w1 wr) (hgrow : (wr.alloc o).grownBy w3 (some g)) : Below w1.heap.size w1 w3 :=
  (hbel.alloc hbel.size o).grown hgrow (by have := hbel.size; simp; omega) (fun k hk => by cases hk; exact hg)

theorem map_snoc (L : List Nat) (F r : Nat) : (L.map fun x : Nat => Value.int .i64 x) ++ [.int .i64 ((F : Int) + (r : Int))] = (L ++ [F + r]).map fun x : Nat => Value.int .i64 x := by simp

/-- A full row of its own is a slice of positions. -/
theorem isInts_of_own {w : World} {B base g m : Nat} {L : List Nat} (hown : w.ownsRow base 3 1 (.slice (some ⟨g, 0, none⟩) m m) m (L.map fun x : Nat => Value.int .i64 x)) (hm : 0 < m) (hB : B ≤ g) : IsInts w B (.slice (some ⟨g, 0, none⟩) m m) L := by
  have hlen : L.length = m := by simpa using hown.1
  subst hlen
  refine .inr ⟨fun h => by simp [h] at hm, g, rfl, hB, ?_⟩
  rcases hown.2 with ⟨h', _⟩ | ⟨g', cap', cur, h', _, hg, _, _, hsz, htake⟩
  · simp at h'
  · simp only [Value.slice.injEq, Option.some.injEq, Addr.mk.injEq, and_true, true_and] at h'
    obtain ⟨rfl, rfl⟩ := h'
    refine ⟨cur, hg, by simpa using hsz, fun i hi => ?_⟩
    have : cur.toList[i]? = some (.int .i64 (L.getD i 0)) := by
      rw [List.take_of_length_le (by simp [hsz])] at htake
      rw [htake]
      simp [List.getElem?_eq_getElem hi, List.getD]
    simpa using this

set_option maxHeartbeats 1000000 in
theorem kids_some (d n home v : Nat) (la : Option Addr) (ll lc : Nat) (tg hg : Nat) (h : Nat → Bool) (w : World) (hd : 1 ≤ d) (hd2 : d ≤ 9223372036854775807) (hn : n ≤ 65536) (hvn : v < n) (hh : home < n)
    (C : Nat) (hC : cnt d n v = C) (h0 : 0 < C) (htg : tg < w.heap.size) (hhg : hg < w.heap.size) (hct : w.cell? ⟨tg, v, none⟩ = some (.int .i64 (twd d home v))) (hch : ∀ i, i < n → w.cell? ⟨hg, i, none⟩ = some (.bool (h i))) :
    Calls Try.prog 28 #[pkr d n (.slice la ll lc) home (.slice (some ⟨tg, 0, none⟩) n n), .int .i64 v, .slice (some ⟨hg, 0, none⟩) n n] w fun e w' =>
      ∃ u, e = .returned u ∧ IsInts w' w.heap.size u (kidsL d n home v h) ∧ Below w.heap.size w w' := by
  obtain ⟨F, hF1, hF, hcs⟩ := children_any d n v hd hd2 hn hvn
  rw [hC] at hcs hF hF1
  obtain ⟨i0, hi, hz0, hz1, hz2⟩ := info_parts Try.info3
  have hslt := startOf_lt (d := d) (n := n) (home := home) (v := v) hd hh (by omega)
  rw [hC] at hslt
  have HK : Hid (kidsL d n home v h = pick F C (startOf d n home v) h) := by
    show kidsL d n home v h = _
    unfold kidsL
    rw [hC, hF1 h0]
  have HC : Hid (cnt d n v = C) := hC
  have HF : Hid (F = d * v + 1) := hF1 h0
  clear hC hF1
  have hFC : (F : Int) + (C : Int) - (F : Int) = (C : Int) := by omega
  have hCn : ((C : Int) == 0) = false := by simp; omega
  obtain ⟨m, hm⟩ : ∃ m, C / 2 + 1 = m := ⟨_, rfl⟩
  have hmI : (C : Int) / 2 + 1 = (m : Int) := by omega
  have hmC : m ≤ C := by omega
  have Hm : Hid (C / 2 + 1 = m) := hm
  clear hm
  have hstart : ∃ s, startOf d n home v = s ∧ s < C ∧ ((twd d home v = -1 ∧ (home : Int) % (C : Int) = (s : Int)) ∨ ∃ x : Nat, twd d home v = (x : Int) ∧ (x : Int) - (F : Int) = (s : Int)) := by
    refine ⟨_, rfl, hslt, ?_⟩
    rcases twd_cases d home v with ht | ⟨x, ht, hx1, hx2, hx3⟩
    · refine .inl ⟨ht, ?_⟩
      unfold startOf
      rw [if_pos ht, HC.out]; exact (Int.natCast_emod _ _).symm
    · refine .inr ⟨x, ht, ?_⟩
      have := (child_iff hd hx1).1 hx3
      have hF' := HF.out
      unfold startOf
      rw [if_neg (by omega), ht]
      omega
  obtain ⟨s, hse, hsC, hcase⟩ := hstart
  rw [hse] at HK
  clear hse hslt
  rcases hcase with ⟨ht, hs⟩ | ⟨x, ht, hs⟩
  all_goals
    rw [ht] at hct
    clear ht
    go_enter Try.func28, Try.ntmps28
    go_wp2_with (first | (go_at_call 30; refine (hcs _).mono ?_; rintro e w1 ⟨rfl, hb⟩; obtain ⟨hc5, hc6, hcT, hcH, hb1⟩ := kids_after htg hhg hct hch hb) | (at_make; refine wpList_make_own _ rfl _ _ 27 rfl w1.heap.size 3 i0 (.int .i64 0) 1 Try.underlying27 hi hz0 hz1 .i64 .i64 _ m rfl rfl rfl (by rw [hz2]; omega) (by unfold maxLen; omega) (Nat.le_refl _) ?_; intro w2 hown2 hgrow2))

    go_loopw [13, 48] (fun p j wr => ∃ k : Nat, k ≤ C ∧ j = .int .i64 k ∧ p = .slice (some ⟨w1.heap.size, 0, none⟩) (soFar F C s h k).length m ∧ wr.ownsRow w1.heap.size 3 1 (.slice (some ⟨w1.heap.size, 0, none⟩) (soFar F C s h k).length m) (soFar F C s h k).length ((soFar F C s h k).map fun x : Nat => Value.int .i64 x) ∧ Hid ((soFar F C s h k).length < m) ∧ Below w1.heap.size w1 wr) (fun _ j _ => C - (intOf j).toNat)
    case atStart => exact ⟨0, Nat.zero_le _, rfl, by simp [soFar_zero], by simpa [soFar_zero] using hown2, by show (soFar F C s h 0).length < m; simp [soFar_zero]; omega, (Below.refl _ _).grown hgrow2 (Nat.le_refl _) (by intro k hk; cases hk)⟩
    case round =>
      clear hown2 hgrow2
      obtain ⟨k, hk, rfl, rfl, hown, hlm, hbel⟩ := hrel
      by_cases hlt : k < C
      · obtain ⟨r, hr⟩ : ∃ r, (s + k) % C = r := ⟨_, rfl⟩
        have hrC : r < C := by rw [← hr]; exact Nat.mod_lt _ h0
        have hrI : ((s : Int) + (k : Int)) % (C : Int) = (r : Int) := by rw [← hr]; simp
        have hck : wr.cell? ⟨hg, F + r, none⟩ = some (.bool (h (F + r))) := (hbel.cell (p := ⟨hg, F + r, none⟩) (by simpa using Nat.lt_trans hhg hb1)).trans (hcH (F + r) (by omega))
        have hsucc := soFar_succ F C s h k hlt
        rw [hr] at hsucc
        obtain ⟨L, hL⟩ : ∃ L, soFar F C s h k = L := ⟨_, rfl⟩
        rw [hL] at hown hsucc hlm ⊢
        by_cases hx : h (F + r) = true
        · rw [if_pos hx] at hsucc
          rw [hx] at hck
          have hlm' := hlm.out
          by_cases hfull : L.length + 1 = m
          · have HP : Hid (kidsL d n home v h = L ++ [F + r]) := HK.out.trans ((pick_hit F C s h (k + 1) (by rw [hsucc, Hm.out]; simpa using hfull)).trans hsucc)
            clear hsucc hL
            go_wp2_with (at_builtin; refine wpList_append_fits _ rfl _ _ 27 rfl w1.heap.size 3 i0 1 Try.underlying27 hi hz1 w1.heap.size L.length m (L.map fun x : Nat => Value.int .i64 x) rfl (hown.alloc _) ⟨wr.heap.size, 0, none⟩ 1 1 [.int .i64 ((F : Int) + (r : Int))] rfl rfl (cell_one_new _ _ _) (by intro u hu; simp at hu; subst hu; rfl) (by omega) ?_; intro w3 hown3 hgrow3)
            go_ret
            rw [map_snoc] at hown3
            refine ⟨_, rfl, ?_, below_box (by simpa using hb.trans ((below_appended (Nat.le_refl _) hbel hgrow3).mono hb.size))⟩
            rw [HP.out]
            rw [hfull] at hown3
            exact isInts_of_own hown3 (by omega) (by omega)
          · have HS : Hid (soFar F C s h (k + 1) = L ++ [F + r]) := hsucc
            clear hsucc hL
            go_wp2_with (at_builtin; refine wpList_append_fits _ rfl _ _ 27 rfl w1.heap.size 3 i0 1 Try.underlying27 hi hz1 w1.heap.size L.length m (L.map fun x : Nat => Value.int .i64 x) rfl (hown.alloc _) ⟨wr.heap.size, 0, none⟩ 1 1 [.int .i64 ((F : Int) + (r : Int))] rfl rfl (cell_one_new _ _ _) (by intro u hu; simp at hu; subst hu; rfl) (by omega) ?_; intro w3 hown3 hgrow3)
            go_roundw
            case rel =>
              rw [map_snoc] at hown3
              refine ⟨k + 1, by omega, by go_num, ?_, ?_, ?_, below_appended (Nat.le_refl _) hbel hgrow3⟩
              · rw [HS.out]; simp
              · rw [HS.out]; simpa using hown3
              · rw [HS.out]; show (L ++ [F + r]).length < m; simp; omega
            case measure => simp [intOf]; omega
        · rw [if_neg hx] at hsucc
          have hx' : h (F + r) = false := by simpa using hx
          rw [hx'] at hck
          have HS : Hid (soFar F C s h (k + 1) = L) := hsucc
          clear hsucc hL hx
          go_wp2
          go_roundw
          case rel => exact ⟨k + 1, by omega, by go_num, by rw [HS.out], by rw [HS.out]; exact hown, by rw [HS.out]; exact hlm, hbel⟩
          case measure => simp [intOf]; omega
      · have hkC : k = C := by omega
        subst hkC
        have HP : Hid (kidsL d n home v h = []) := HK.out.trans (pick_miss F k s h (by rw [Hm.out]; exact hlm.out))
        go_wp2
        go_ret
        exact ⟨_, rfl, .inl ⟨HP.out, rfl⟩, below_box (by simpa using hb.trans (hbel.mono hb.size))⟩
end Go.Proofs.Qxb6600850a
