/- FnReadGivesALiveReadQuorum (function 7): the walk. -/
import Derived.Test.Qxb6600850aForms
import Derived.Test.Qxb6600850aQuorumMath
namespace Go.Proofs.Qxb6600850a
open Go.RowKit
set_option linter.unusedVariables false

set_option maxHeartbeats 400000 in
theorem bytes23_yes (a0 a1 a2 : Int) (a : Option Addr) (len cap : Nat) (b : Bool) (w : World) (hl : len ≤ 1048576) :
    Calls Try.prog 23 #[.int .i64 a0, .int .i64 a1, .int .i64 a2, .slice a len cap, .bool b] w fun e w' => e = .returned (.bool true) ∧ w = w' := by
  go_enter Try.func23, Try.ntmps23
  go_wp2
  go_ret
  exact ⟨rfl, rfl⟩

set_option maxHeartbeats 400000 in
theorem bytes23_no (a0 a1 a2 : Int) (a : Option Addr) (len cap : Nat) (b : Bool) (w : World) (hl : 1048576 < len) :
    Calls Try.prog 23 #[.int .i64 a0, .int .i64 a1, .int .i64 a2, .slice a len cap, .bool b] w fun e w' => e = .returned (.bool false) ∧ w = w' := by
  go_enter Try.func23, Try.ntmps23
  go_wp2
  go_ret
  exact ⟨rfl, rfl⟩

/-- Strictly increasing. -/
theorem sorted_lt {L : List Nat} (hs : L.Pairwise (· < ·)) {i j : Nat} (hij : i < j) (hj : j < L.length) : L.getD i 0 < L.getD j 0 := by
  rw [getD_lt (by omega), getD_lt hj]
  exact List.pairwise_iff_getElem.1 hs i j (by omega) hj hij

theorem in_step {w : World} {b n j x : Nat} {L : List Nat} (hr : w.rowIs b 4 n (fun x => .bool (decide (x ∈ L.take j)))) (hx : L[j]? = some x) :
    (w.setCell ⟨b, x, none⟩ (.bool true)).rowIs b 4 n (fun x => .bool (decide (x ∈ L.take (j + 1)))) :=
  (hr.set x _).congr fun i _ => by
    rw [List.take_add_one, hx]
    by_cases e : i = x
    · simp [e]
    · simp [e]

theorem getD_some {L : List Nat} {j x m : Nat} (hm : L.length = m) (hj : j < m) (hx : L.getD j 0 = x) : L[j]? = some x := by
  have : j < L.length := by omega
  rw [← hx]; simp [List.getD, List.getElem?_eq_getElem this]

set_option maxRecDepth 100000 in
set_option maxHeartbeats 4000000 in
theorem quorum_read (d n home b off cap : Nat) (lv : Nat → Bool) (w : World) (hd : 1 ≤ d) (hd2 : d ≤ 9223372036854775807) (hn : n ≤ 65536) (hh : home < n)
    (hb : b < w.heap.size) (hc : ∀ i, i < n → w.cell? ⟨b, off + i, none⟩ = some (.bool (lv i))) :
    Calls Try.prog 7 #[.int .i64 d, .int .i64 n, .int .i64 home, .slice (some ⟨b, off, none⟩) n cap, .bool false] w fun e w' => e = .returned (.bool true) ∧ Below w.heap.size w w' := by
  have hcl := clone_any b off n cap lv w hn hb hc
  have H1 := (⟨hcl⟩ : PLift _)
  clear hcl hc
  have hne : ((n : Int) != (n : Int)) = false := by simp
  have h1n : 1 ≤ n := by omega
  obtain ⟨h, hhe⟩ : ∃ h, h = flag d n (rRule d n lv) := ⟨_, rfl⟩
  have hD : Hid (Deep d n home lv h) := by rw [hhe]; exact deep_r hd hh
  go_enter Try.func7, Try.ntmps7
  go_wp2_with (first | (go_at_call 23; refine (bytes23_yes _ _ _ _ _ _ _ _ (by omega)).mono ?_; rintro e w' ⟨rfl, rfl⟩) | (go_at_call 10; refine H1.down.mono ?_; rintro e w1 ⟨lg, rfl, hg1, hr1, hb1⟩) | (go_at_call 11; refine (lists_any d n _ hd hd2 (by omega) hn).mono ?_; rintro e w2 ⟨G, V, rfl, hG, hL, hb2⟩))
  have LB2 : BRow w2 lg n lv := (BRow.of hr1).later hb2
  refine (flags_any d n G lg V lv w2 hd h1n hn hL LB2.1 LB2.2).mono ?_
  rintro e w3 ⟨gr, gw, rfl, hgr, hgw, hrr, hrw, hb3⟩
  have LB3 := (⟨LB2.later hb3⟩ : PLift (BRow w3 lg n lv))
  have LL3 := (⟨(LForm.of hL).later hb3⟩ : PLift (LForm w3 G d n))
  have HB3 := (⟨by rw [hhe]; exact BRow.of hrr⟩ : PLift (BRow w3 gr n h))
  have B3 := (⟨hb1.trans ((hb2.mono hb1.size).trans (hb3.mono (Nat.le_trans hb1.size hb2.size)))⟩ : PLift (Below w.heap.size w w3))
  have c0 := HB3.down.2 0 (by omega)
  clear hhe H1 hr1 hb1 hb2 hb3 hL LB2 hrr hrw hgr hgw hg1 hG
  by_cases h0 : h 0 = true
  · rw [h0] at c0
    go_wp2_with (go_at_call 14; refine (zzToward_any d n home _ hd hd2 hh hn).mono ?_; rintro e w4 ⟨tg, rfl, ht1, hr4, hb4⟩)
    refine (zzRead_any d n home lg tg gr lv h _ ⟨hd, hd2, hn, hh, (LB3.down.later hb4).1, hr4.lt, (HB3.down.later hb4).1, (LB3.down.later hb4).2, fun i hi => hr4.cell hi, (HB3.down.later hb4).2⟩).mono ?_
    rintro e w5 ⟨u, rfl, hI, hb5⟩
    obtain ⟨L, hLe⟩ : ∃ L, L = readL d n (KK d n home h) (TT d n home lv h) := ⟨_, rfl⟩
    rw [← hLe] at hI
    have hmemL : Hid (∀ x, x ∈ L → x < n ∧ lv x = true ∧ h x = true) := by
      intro x hx
      rw [hLe, mem_readL] at hx
      exact ⟨hx.1, TT_live hx.2.2, reached_held hd hh h0 x hx.2.1⟩
    have hsrt : Hid (L.Pairwise (· < ·)) := by rw [hLe]; exact readL_sorted _ _ _ _
    have hquo : Hid (flag d n (qRule d n fun x => decide (x ∈ L)) 0 = true) :=
      quorum_up hd hh h0 hD.out _ (fun x hx => by simpa [hLe] using hx) n 0 (by omega) (by omega) (reached_zero _ _ _)
    have hLn : L.length ≤ n := nodup_length (by rw [hLe]; unfold readL; exact List.filter_sublist.nodup List.nodup_range) (fun x hx => (hmemL.out x hx).1)
    obtain ⟨ao, gcap, rfl, hfm⟩ := SForm.of hI
    obtain ⟨m, hm⟩ : ∃ m, L.length = m := ⟨_, rfl⟩
    rw [hm] at hfm hLn ⊢
    have Hm : Hid (L.length = m) := hm
    have LB := (⟨(LB3.down.later hb4).later hb5⟩ : PLift (BRow w5 lg n lv))
    have LL := (⟨(LL3.down.later hb4).later hb5⟩ : PLift (LForm w5 G d n))
    have HB := (⟨(HB3.down.later hb4).later hb5⟩ : PLift (BRow w5 gr n h))
    have B5 := (⟨B3.down.trans ((hb4.mono B3.down.size).trans (hb5.mono (Nat.le_trans B3.down.size hb4.size)))⟩ : PLift (Below w.heap.size w w5))
    have hmk := run_make_row' (P := Try.prog) 22 4 (.bool false) 1 Try.underlying22 Try.info4 rfl .i64 .i64 n (by omega) (by omega)
    have HFM := (⟨hfm⟩ : PLift _)
    clear hLe hI hfm hm LB3 LL3 HB3 B3 hb4 hb5 hr4 ht1 c0 h0 hD
    go_wp2
    go_loopw [18, 19] (fun pv i wr => ∃ k : Nat, ∃ pz : Int, k ≤ m ∧ i = .int .i64 k ∧ pv = .int .i64 pz ∧ Hid (∀ j, k ≤ j → j < m → pz < ((L.getD j 0 : Nat) : Int)) ∧ wr.rowIs w5.heap.size 4 n (fun x => .bool (decide (x ∈ L.take k))) ∧ Below w5.heap.size w5 wr) (fun _ i _ => m - (intOf i).toNat)
    case atStart => exact ⟨0, -1, Nat.zero_le _, rfl, rfl, fun j _ _ => by omega, (World.rowIs_made w5 (.bool false) n 4).congr (fun i _ => by simp), (Below.refl _ _).alloc (Nat.le_refl _) _⟩
    case round =>
      obtain ⟨k, pz, hk, rfl, rfl, hprev, hrow, hbel⟩ := hrel
      by_cases hlt : k < m
      · obtain ⟨gg, rfl, hgg, hcc⟩ := HFM.down (by omega)
        obtain ⟨x, hx⟩ : ∃ x, L.getD k 0 = x := ⟨_, rfl⟩
        have hxL := getD_some Hm.out hlt hx
        obtain ⟨hx1, hx2, hx3⟩ := hmemL.out x (List.mem_of_getElem? hxL)
        have hpx : pz < (x : Int) := by have := hprev.out k (Nat.le_refl _) hlt; rw [hx] at this; exact this
        have hxn : (x : Int) < (n : Int) := by omega
        have e1 : wr.cell? ⟨gg, k, none⟩ = some (.int .i64 (x : Int)) := (hbel.cell (p := ⟨gg, k, none⟩) hgg).trans (by rw [hcc k hlt, hx])
        have e2 : wr.cell? ⟨lg, x, none⟩ = some (.bool true) := (hbel.cell (p := ⟨lg, x, none⟩) LB.down.1).trans (by rw [LB.down.2 x hx1, hx2])
        have e3 : wr.cell? ⟨gr, x, none⟩ = some (.bool true) := (hbel.cell (p := ⟨gr, x, none⟩) HB.down.1).trans (by rw [HB.down.2 x hx1, hx3])
        have e4 := hrow.cell hx1
        have f4 := hrow.frozen x
        have R := in_step hrow hxL
        have B := hbel.setCell (p := ⟨w5.heap.size, x, none⟩) (Nat.le_refl _) (.bool true)
        have HP : Hid (∀ j, k + 1 ≤ j → j < m → (x : Int) < ((L.getD j 0 : Nat) : Int)) := by
          intro j h1 h2
          have := sorted_lt hsrt.out (i := k) (j := j) (by omega) (by rw [Hm.out]; exact h2)
          omega
        clear hcc hrow hbel hxL hx hx2 hx3 hprev
        go_wp2
        go_roundw
        case rel => exact ⟨k + 1, (x : Int), by omega, by go_num, rfl, HP, R, B⟩
        case measure => simp [intOf]; omega
      · obtain rfl : k = m := by omega
        rename World => w6
        have hrow' : w6.rowIs w5.heap.size 4 n (fun x => .bool (decide (x ∈ L))) := hrow.congr (fun i _ => by rw [List.take_of_length_le (by rw [Hm.out]; exact Nat.le_refl _)])
        have LI := (⟨BRow.of hrow'⟩ : PLift (BRow w6 w5.heap.size n fun x => decide (x ∈ L)))
        have LW := (⟨LL.down.later hbel⟩ : PLift (LForm w6 G d n))
        have BW := (⟨B5.down.trans (hbel.mono B5.down.size)⟩ : PLift (Below w.heap.size w w6))
        clear hrow hrow' hprev hbel LL B5 LB HB HFM hmemL hsrt
        obtain ⟨Q, hQe⟩ : ∃ Q, Q = flag d n (qRule d n fun x => decide (x ∈ L)) := ⟨_, rfl⟩
        have HQ : Hid (Q = flag d n (qRule d n fun x => decide (x ∈ L))) := hQe
        have HQ0 : Hid (Q 0 = true) := by rw [hQe]; exact hquo.out
        obtain ⟨inn, hie⟩ : ∃ inn : Nat → Bool, inn = fun x => decide (x ∈ L) := ⟨_, rfl⟩
        rw [← hie] at HQ LI
        clear hQe hquo hie
        go_wp2
        go_loopw [22] (fun v wx => ∃ k : Nat, ∃ z : Int, k ≤ n ∧ z + 1 = (k : Int) ∧ v = .int .i64 z ∧ wx.rowIs w6.heap.size 4 n (fun j => .bool (DownTo k Q j)) ∧ Below w6.heap.size w6 wx) (fun v _ => (intOf v + 1).toNat)
        case atStart => exact ⟨n, _, Nat.le_refl _, by omega, rfl, downTo_start n Q w6 _ rfl, (Below.refl _ _).alloc (Nat.le_refl _) _⟩
        case round =>
          obtain ⟨kk, z, hkk, hz, rfl, hr1, hbx⟩ := hrel
          by_cases hk0 : 0 < kk
          · obtain ⟨v, rfl⟩ : ∃ v, kk = v + 1 := ⟨kk - 1, by omega⟩
            obtain rfl : z = (v : Int) := by omega
            clear hz hk0
            obtain ⟨ax, cx, hV, hfx⟩ := LW.down.2 v (by omega)
            have hcV : wr.cell? ⟨G, v, none⟩ = some (.slice ax (cnt d n v) cx) := (hbx.cell (p := ⟨G, v, none⟩) LW.down.1).trans hV
            have hcI : wr.cell? ⟨w5.heap.size, v, none⟩ = some (.bool (inn v)) := (hbx.cell (p := ⟨w5.heap.size, v, none⟩) LI.down.1).trans (LI.down.2 v (by omega))
            obtain ⟨C, hC⟩ : ∃ C, cnt d n v = C := ⟨_, rfl⟩
            have hCn : C ≤ n := by rw [← hC]; unfold cnt; omega
            have hgt : ∀ j, j < C → v + 1 ≤ d * v + 1 + j ∧ d * v + 1 + j < n := fun j hj => by
              have := child_gt hd (hC ▸ hj); omega
            rw [hC] at hcV hfx
            have HC : Hid (cnt d n v = C) := hC
            clear hV hC
            obtain ⟨F, hF⟩ : ∃ F, d * v + 1 = F := ⟨_, rfl⟩
            rw [hF] at hfx hgt
            have HF : Hid (d * v + 1 = F) := hF
            clear hF
            have hcg1 : ∀ j, j < C → wr.cell? ⟨w6.heap.size, F + j, none⟩ = some (.bool (Q (F + j))) := fun j hj => by
              rw [hr1.cell (hgt j hj).2]; simp [DownTo, (hgt j hj).1]
            have hq1 := hr1.cell (i := v) (by omega)
            have hf1 := hr1.frozen v
            have HR1 := (⟨hr1⟩ : PLift _)
            clear hr1
            go_wp2
            go_loop [25, 26] (fun a i => ∃ j : Nat, j ≤ C ∧ i = .int .i64 j ∧ a = .int .i64 (marked F j Q)) (fun _ i => C - (intOf i).toNat)
            case atStart => exact ⟨0, Nat.zero_le _, rfl, rfl⟩
            case round =>
              obtain ⟨j, hj, rfl, rfl⟩ := hrel
              have hm1 := marked_le F j Q
              by_cases hlt : j < C
              · obtain ⟨g0, rfl, hg0, hcc⟩ := hfx (by omega)
                have e0 : wr.cell? ⟨g0, j, none⟩ = some (.int .i64 ((F : Int) + (j : Int))) := (hbx.cell (p := ⟨g0, j, none⟩) hg0).trans (by simpa using hcc j hlt)
                have e1 := hcg1 j hlt
                have hFn := (hgt j hlt).2
                have M1 : Hid (marked F (j + 1) Q = marked F j Q + if Q (F + j) then 1 else 0) := marked_succ F j Q
                clear hcg1 hcc hgt hfx
                by_cases x1 : Q (F + j) = true
                · rw [x1] at e1
                  have M1' : Hid (marked F (j + 1) Q = marked F j Q + 1) := by have := M1.out; rw [if_pos x1] at this; exact this
                  clear x1 M1
                  go_wp2
                  go_round
                  case rel => exact ⟨j + 1, by omega, by go_num, by rw [M1'.out]; go_num⟩
                  case measure => simp [intOf]; omega
                · have x1' : Q (F + j) = false := by simpa using x1
                  rw [x1'] at e1
                  have M1' : Hid (marked F (j + 1) Q = marked F j Q) := by have := M1.out; rw [if_neg x1] at this; exact this
                  clear x1 x1' M1
                  go_wp2
                  go_round
                  case rel => exact ⟨j + 1, by omega, by go_num, by rw [M1'.out]⟩
                  case measure => simp [intOf]; omega
              · obtain rfl : j = C := by omega
                clear hcg1 hgt hfx hlt
                have er : Q v = (inn v || (decide (0 < j) && decide (j < 2 * marked F j Q))) := by
                  have := flag_eq d n (qRule d n inn) hd (v := v) (by omega)
                  rw [← HQ.out, HF.out, HC.out] at this
                  rw [this]; unfold qRule; rw [HC.out]
                have HER : Hid (Q v = (inn v || (decide (0 < j) && decide (j < 2 * marked F j Q)))) := er
                clear er
                obtain ⟨m1, hm1e⟩ : ∃ m, marked F j Q = m := ⟨_, rfl⟩
                rw [hm1e] at hm1 HER ⊢
                clear hm1e
                by_cases hl : inn v = true
                · rw [hl] at hcI
                  go_wp2
                  go_roundw
                  case rel => exact ⟨v, _, by omega, by omega, rfl, downTo_step HR1.down (by rw [HER.out, hl]; simp), hbx.setCell (Nat.le_refl _) _⟩
                  case measure => simp [intOf]
                · have hl' : inn v = false := by simpa using hl
                  rw [hl'] at hcI
                  by_cases hj0 : 0 < j
                  · go_wp2
                    go_roundw
                    case rel => exact ⟨v, _, by omega, by omega, rfl, downTo_step HR1.down (by rw [HER.out, hl', dec_cast]; simp [hj0]), hbx.setCell (Nat.le_refl _) _⟩
                    case measure => simp [intOf]
                  · obtain rfl : j = 0 := by omega
                    go_wp2
                    go_roundw
                    case rel => exact ⟨v, _, by omega, by omega, rfl, downTo_step HR1.down (by rw [HER.out, hl']; simp), hbx.setCell (Nat.le_refl _) _⟩
                    case measure => simp [intOf]
          · obtain rfl : kk = 0 := by omega
            obtain rfl : z = -1 := by omega
            have hq0 : wr.cell? ⟨w6.heap.size, 0, none⟩ = some (.bool true) := by
              rw [hr1.cell (i := 0) (by omega)]; simp [DownTo, HQ0.out]
            clear hr1
            go_wp2
            go_ret
            exact ⟨rfl, BW.down.trans (hbx.mono BW.down.size)⟩
  · have h0' : h 0 = false := by simpa using h0
    rw [h0'] at c0
    go_wp2
    go_ret
    exact ⟨rfl, B3.down⟩
end Go.Proofs.Qxb6600850a
