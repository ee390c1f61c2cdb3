/- FnKidsAnswerIsAHeldMajorityOrNil (function 5): the walk. -/
import Derived.Test.Qxb6600850aZzKids
import Derived.Test.Qxb6600850aKidsLaws
namespace Go.Proofs.Qxb6600850a
open Go.RowKit
set_option linter.unusedVariables false

set_option maxHeartbeats 400000 in
theorem bytes18_yes (a0 a1 a2 a3 : Int) (a : Option Addr) (len cap : Nat) (w : World) (hl : len ≤ 1048576) :
    Calls Try.prog 18 #[.int .i64 a0, .int .i64 a1, .int .i64 a2, .int .i64 a3, .slice a len cap] w fun e w' => e = .returned (.bool true) ∧ w = w' := by
  go_enter Try.func18, Try.ntmps18
  go_wp2
  go_ret
  exact ⟨rfl, rfl⟩

set_option maxHeartbeats 400000 in
theorem bytes18_no (a0 a1 a2 a3 : Int) (a : Option Addr) (len cap : Nat) (w : World) (hl : 1048576 < len) :
    Calls Try.prog 18 #[.int .i64 a0, .int .i64 a1, .int .i64 a2, .int .i64 a3, .slice a len cap] w fun e w' => e = .returned (.bool false) ∧ w = w' := by
  go_enter Try.func18, Try.ntmps18
  go_wp2
  go_ret
  exact ⟨rfl, rfl⟩

theorem ret_bool {a b : Bool} (h : a = b) : Ending.returned (.bool a) = .returned (.bool b) := by rw [h]

theorem seen_not {L : List Nat} {j x : Nat} (hn : L.Nodup) (hx : L[j]? = some x) : decide (x ∈ L.take j) = false := by
  apply decide_eq_false
  intro hm
  obtain ⟨hj, rfl⟩ := List.getElem?_eq_some_iff.1 hx
  rw [List.mem_iff_getElem] at hm
  obtain ⟨i, hi, he⟩ := hm
  have hi' : i < j := by simp at hi; omega
  rw [List.getElem_take] at he
  exact List.pairwise_iff_getElem.1 hn i j (by omega) hj hi' he

theorem seen_step {w : World} {b k j x : Nat} {L : List Nat} (hr : w.rowIs b 4 k (fun x => .bool (decide (x ∈ L.take j)))) (hx : L[j]? = some x) :
    (w.setCell ⟨b, x, none⟩ (.bool true)).rowIs b 4 k (fun x => .bool (decide (x ∈ L.take (j + 1)))) :=
  (hr.set x _).congr fun i _ => by
    rw [List.take_add_one, hx]
    by_cases e : i = x
    · simp [e]
    · simp [e]

theorem answer_nil {d n home v C s0 M : Nat} {h : Nat → Bool} (hd : 1 ≤ d) (hh : home < n) (hC : C = cnt d n v) (hs : d * v + 1 = s0) (hM : marked s0 C h = M) (hK : kidsL d n home v h = []) : 2 * M ≤ C := by
  subst hC hs hM
  rcases Nat.eq_zero_or_pos (cnt d n v) with h0 | h0
  · have := marked_le (d * v + 1) (cnt d n v) h
    omega
  · exact (kidsL_nil_iff hd hh h0).1 hK

theorem nUp_one (s d : Nat) (hs : 1 ≤ s) : nUp s d 1 = 0 := by unfold nUp; omega
theorem nUp_le (s d k : Nat) : nUp s d k ≤ k := by unfold nUp; omega

set_option maxRecDepth 100000 in
set_option maxHeartbeats 1000000 in
theorem answer_main (d n home v b off cap : Nat) (h : Nat → Bool) (w : World) (hd : 1 ≤ d) (hd2 : d ≤ 9223372036854775807) (hn : n ≤ 65536) (hvn : v < n) (hh : home < n)
    (hb : b < w.heap.size) (hc : ∀ i, i < n → w.cell? ⟨b, off + i, none⟩ = some (.bool (h i))) :
    Calls Try.prog 5 #[.int .i64 d, .int .i64 n, .int .i64 home, .int .i64 v, .slice (some ⟨b, off, none⟩) n cap] w fun e w' => e = .returned (.bool true) ∧ Below w.heap.size w w' := by
  have hcl := clone_any b off n cap h w hn hb hc
  have H1 := (⟨hcl⟩ : PLift _)
  clear hcl hc
  have hne : ((n : Int) != (n : Int)) = false := by simp
  obtain ⟨s0, hs0⟩ : ∃ s0, d * v + 1 = s0 := ⟨_, rfl⟩
  go_enter Try.func5, Try.ntmps5
  go_wp2_with (first | (go_at_call 18; refine (bytes18_yes _ _ _ _ _ _ _ _ (by omega)).mono ?_; rintro e w' ⟨rfl, rfl⟩) | (go_at_call 10; refine H1.down.mono ?_; rintro e w1 ⟨g, rfl, hg1, hr1, hb1⟩))
  go_loop [11, 12, 13] (fun a b c => ∃ k : Nat, 1 ≤ k ∧ k ≤ n ∧ c = .int .i64 k ∧ a = .int .i64 (nUp s0 d k) ∧ b = .int .i64 (marked s0 (nUp s0 d k) h)) (fun _ _ c => n - (intOf c).toNat)
  case atStart => exact ⟨1, Nat.le_refl _, by omega, rfl, by rw [nUp_one s0 d (by omega)]; rfl, by rw [nUp_one s0 d (by omega)]; rfl⟩
  case round =>
    obtain ⟨k, hk1, hk, rfl, rfl, rfl⟩ := hrel
    have hml := marked_le s0 (nUp s0 d k) h
    have hnl := nUp_le s0 d k
    by_cases hlt : k < n
    · obtain ⟨p, hpe⟩ : ∃ p, (k - 1) / d = p := ⟨_, rfl⟩
      have hpI : ((k : Int) - 1) / (d : Int) = (p : Int) := by rw [← hpe]; exact par_int (by omega)
      have hcell := hr1.cell hlt
      have hiff := child_iff (v := v) hd hk1
      rw [hpe, hs0] at hiff
      by_cases e : p = v
      · obtain ⟨q1, q2⟩ := hiff.1 e
        obtain ⟨e1, e2⟩ := nUp_yes q1 q2
        have e3 := marked_succ s0 (nUp s0 d k) h
        rw [e2] at e3
        have H2 : Hid (nUp s0 d (k + 1) = nUp s0 d k + 1) := e1
        have H3 : Hid (marked s0 (nUp s0 d k + 1) h = marked s0 (nUp s0 d k) h + if h k then 1 else 0) := e3
        clear e1 e2 e3 hiff hpe
        subst e
        by_cases hx : h k = true
        · rw [hx] at hcell
          go_wp2
          go_round
          case rel => exact ⟨k + 1, by omega, by omega, by go_num, by rw [H2.out]; go_num, by rw [H2.out, H3.out, if_pos hx]; go_num⟩
          case measure => simp [intOf]; omega
        · have hx' : h k = false := by simpa using hx
          rw [hx'] at hcell
          go_wp2
          go_round
          case rel => exact ⟨k + 1, by omega, by omega, by go_num, by rw [H2.out]; go_num, by rw [H2.out, H3.out, if_neg hx]; go_num⟩
          case measure => simp [intOf]; omega
      · have H2 : Hid (nUp s0 d (k + 1) = nUp s0 d k) := nUp_no (fun q => e (hiff.2 q))
        have e' : ((p : Int) == (v : Int)) = false := by simp; omega
        clear hiff hpe
        go_wp2
        go_round
        case rel => exact ⟨k + 1, by omega, by omega, by go_num, by rw [H2.out], by rw [H2.out]⟩
        case measure => simp [intOf]; omega
    · have hkn : k = n := by omega
      subst hkn
      have HC : Hid (nUp s0 d k = cnt d k v) := by show nUp s0 d k = _; unfold nUp cnt; rw [hs0]
      have HS0 : Hid (d * v + 1 = s0) := hs0
      clear hs0
      obtain ⟨C, hC⟩ : ∃ C, nUp s0 d k = C := ⟨_, rfl⟩
      obtain ⟨M, hM⟩ : ∃ M, marked s0 C h = M := ⟨_, rfl⟩
      rw [hC] at HC hml hnl ⊢
      rw [hM] at hml ⊢
      clear hC
      have HM : Hid (marked s0 C h = M) := hM
      clear hM
      go_wp2_with (go_at_call 14; refine (zzToward_any d k home _ hd hd2 hh hn).mono ?_; rintro e w2 ⟨tg, rfl, ht1, hr2, hb2⟩)
      refine (zzKids_any d k home v tg g h _ hd hd2 hn hvn hh hr2.lt (Nat.lt_of_lt_of_le hr1.lt hb2.size) (hr2.cell hvn) (fun i hi => (hb2.cell (p := ⟨g, i, none⟩) hr1.lt).trans (hr1.cell hi))).mono ?_
      rintro e w3 ⟨u, rfl, hI, hb3⟩
      rcases hI with ⟨hK, rfl⟩ | ⟨hK, gk, rfl, hgk, hrk⟩
      · have hnil := fun w a n c => Lib.run_eql_slice_nil (P := Try.prog) w 27 3 a n c 0 0 Try.underlying27
        have hle : 2 * M ≤ C := answer_nil hd hh HC.out HS0.out HM.out hK
        go_wp2
        go_ret
        exact ⟨ret_bool (by simp; omega), hb1.trans ((hb2.mono hb1.size).trans (hb3.mono (Nat.le_trans hb1.size hb2.size)))⟩
      · have hnil := fun w a n c => Lib.run_eql_slice_nil (P := Try.prog) w 27 3 a n c 0 0 Try.underlying27
        have hlen : (kidsL d k home v h).length = C / 2 + 1 := by rw [HC.out]; exact kidsL_length hd hh hK
        have hmk := run_make_row' (P := Try.prog) 22 4 (.bool false) 1 Try.underlying22 Try.info4 rfl .i64 .i64 k (by omega) (by omega)
        have hmem : ∀ x, x ∈ kidsL d k home v h → 1 ≤ x ∧ x < k ∧ (x - 1) / d = v ∧ h x = true := fun x hx => kidsL_mem hd hh hx
        have hnod := kidsL_nodup (d := d) (n := k) (home := home) (v := v) (h := h) hd hh
        have hhead : ∀ x : Nat, twd d home v = (x : Int) → h x = true → (kidsL d k home v h).getD 0 0 = x := fun x h1 h2 => kidsL_head hd hh h1 h2 hK
        obtain ⟨L, hL⟩ : ∃ L, kidsL d k home v h = L := ⟨_, rfl⟩
        rw [hL] at hlen hmem hnod hhead hK hrk ⊢
        obtain ⟨m, hm⟩ : ∃ m, L.length = m := ⟨_, rfl⟩
        rw [hm] at hlen hrk ⊢
        have hmI : (C : Int) / 2 + 1 = (m : Int) := by omega
        have hm0 : 0 < m := by omega
        have hmk2 : m ≤ k + 1 := by omega
        have Hm : Hid (L.length = m) := hm
        have Hmem : Hid (∀ x, x ∈ L → 1 ≤ x ∧ x < k ∧ (x - 1) / d = v ∧ h x = true) := hmem
        have Hnod : Hid (L.Nodup) := hnod
        have Hhead : Hid (∀ x : Nat, twd d home v = (x : Int) → h x = true → L.getD 0 0 = x) := hhead
        have hgw : g < w3.heap.size := Nat.lt_of_lt_of_le hr1.lt (Nat.le_trans hb2.size hb3.size)
        have hrg : w3.rowIs g 4 k (fun i => .bool (h i)) := (hr1.of_block (hb2.block g hr1.lt)).of_block (hb3.block g (Nat.lt_of_lt_of_le hr1.lt hb2.size))
        have hB3 : Below w.heap.size w w3 := hb1.trans ((hb2.mono hb1.size).trans (hb3.mono (Nat.le_trans hb1.size hb2.size)))
        clear hL hlen hm hmem hnod hhead hr1 hr2 hb1 hb2 hb3 hK
        go_wp2
        go_loopw [17] (fun i wr => ∃ j : Nat, j ≤ m ∧ i = .int .i64 j ∧ wr.rowIs w3.heap.size 4 k (fun x => .bool (decide (x ∈ L.take j))) ∧ Below w3.heap.size w3 wr) (fun i _ => m - (intOf i).toNat)
        case atStart => exact ⟨0, Nat.zero_le _, rfl, (World.rowIs_made w3 (.bool false) k 4).congr (fun i _ => by simp), (Below.refl _ _).alloc (Nat.le_refl _) _⟩
        case round =>
          obtain ⟨j, hj, rfl, hrow, hbel⟩ := hrel
          have hckk : ∀ i, i < m → wr.cell? ⟨gk, i, none⟩ = some (.int .i64 (L.getD i 0 : Nat)) := fun i hi => (hbel.cell (p := ⟨gk, i, none⟩) hrk.lt).trans (hrk.cell hi)
          have hckg : ∀ i, i < k → wr.cell? ⟨g, i, none⟩ = some (.bool (h i)) := fun i hi => (hbel.cell (p := ⟨g, i, none⟩) hgw).trans (hrg.cell hi)
          by_cases hlt : j < m
          · obtain ⟨x, hx⟩ : ∃ x, L.getD j 0 = x := ⟨_, rfl⟩
            have hxL : L[j]? = some x := by
              have : j < L.length := by rw [Hm.out]; exact hlt
              rw [← hx]; simp [List.getD, List.getElem?_eq_getElem this]
            obtain ⟨hx1, hx2, hx3, hx4⟩ := Hmem.out x (List.mem_of_getElem? hxL)
            have hpI : ((x : Int) - 1) / (d : Int) = (v : Int) := by rw [← hx3]; exact par_int (by omega)
            have hc1 := hckk j hlt
            rw [hx] at hc1
            have hc2 := hckg x hx2
            rw [hx4] at hc2
            have hns : decide (x ∈ L.take j) = false := seen_not Hnod.out hxL
            have hc3 := hrow.cell hx2
            rw [hns] at hc3
            have hf3 := hrow.frozen x
            have R := seen_step hrow hxL
            have B := hbel.setCell (p := ⟨w3.heap.size, x, none⟩) (Nat.le_refl _) (.bool true)
            have hvv : ((v : Int) != (v : Int)) = false := by simp
            clear hckk hckg hrow hbel hns hxL hx hx3 hx4
            go_wp2
            go_roundw
            case rel => exact ⟨j + 1, by omega, by go_num, R, B⟩
            case measure => simp [intOf]; omega
          · have hB4 : Below w.heap.size w wr := hB3.trans (hbel.mono hB3.size)
            have hxk : ∀ x : Nat, x ≤ home → x < k := fun x hx => by omega
            clear hrow hbel
            rcases twd_cases d home v with ht | ⟨x, ht, hx1, hx2, hx3⟩
            · go_wp2_with (go_at_call 13; refine (way_any d home v _ hd hd2 (by omega) (by omega)).mono ?_; rintro e w4 ⟨rfl, rfl⟩)
              go_ret
              exact ⟨rfl, hB4⟩
            · have hxk' : x < k := hxk x hx2
              have hc2 := hckg x hxk'
              have hc0 := hckk 0 hm0
              clear hckg hckk hxk
              by_cases hx : h x = true
              · rw [hx] at hc2
                rw [Hhead.out x ht hx] at hc0
                have hxx : ((x : Int) != (x : Int)) = false := by simp
                clear hx hx3
                go_wp2_with (go_at_call 13; refine (way_any d home v _ hd hd2 (by omega) (by omega)).mono ?_; rintro e w4 ⟨rfl, rfl⟩)
                go_ret
                exact ⟨rfl, hB4⟩
              · have hx' : h x = false := by simpa using hx
                rw [hx'] at hc2
                clear hx hx3
                go_wp2_with (go_at_call 13; refine (way_any d home v _ hd hd2 (by omega) (by omega)).mono ?_; rintro e w4 ⟨rfl, rfl⟩)
                go_ret
                exact ⟨rfl, hB4⟩
end Go.Proofs.Qxb6600850a
