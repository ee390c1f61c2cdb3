/- FnReadIsTheReachedNodesThatAreTaken (function 6): the walk. -/
import Derived.Test.Qxb6600850aTakenParts
import Derived.Deep.RegionWith
namespace Go.Proofs.Qxb6600850a
open Go.RowKit
set_option linter.unusedVariables false

set_option maxHeartbeats 400000 in
theorem bytes19_yes (a0 a1 a2 : Int) (a b : Option Addr) (n1 c1 n2 c2 : Nat) (w : World) (hl : n1 + n2 ≤ 1048576) :
    Calls Try.prog 19 #[.int .i64 a0, .int .i64 a1, .int .i64 a2, .slice a n1 c1, .slice b n2 c2] w fun e w' => e = .returned (.bool true) ∧ w = w' := by
  go_enter Try.func19, Try.ntmps19
  go_wp2
  go_ret
  exact ⟨rfl, rfl⟩

set_option maxHeartbeats 400000 in
theorem bytes19_no (a0 a1 a2 : Int) (a b : Option Addr) (n1 c1 n2 c2 : Nat) (w : World) (h1 : n1 ≤ 9223372036854775807) (h2 : n2 ≤ 9223372036854775807) (hl : 1048576 < n1 + n2) :
    Calls Try.prog 19 #[.int .i64 a0, .int .i64 a1, .int .i64 a2, .slice a n1 c1, .slice b n2 c2] w fun e w' => e = .returned (.bool false) ∧ w = w' := by
  by_cases q1 : 1048576 < n1
  · go_enter Try.func19, Try.ntmps19
    go_wp2
    go_ret
    exact ⟨rfl, rfl⟩
  · by_cases q2 : 1048576 < n2
    · go_enter Try.func19, Try.ntmps19
      go_wp2
      go_ret
      exact ⟨rfl, rfl⟩
    · go_enter Try.func19, Try.ntmps19
      go_wp2
      go_ret
      exact ⟨rfl, rfl⟩

set_option maxRecDepth 100000 in
set_option maxHeartbeats 8000000 in
theorem taken_main (d n home b1 o1 k1 b2 o2 k2 : Nat) (lv h : Nat → Bool) (w : World) (hd : 1 ≤ d) (hd2 : d ≤ 9223372036854775807) (hn : n ≤ 65536) (hh : home < n)
    (hb1 : b1 < w.heap.size) (hc1 : ∀ i, i < n → w.cell? ⟨b1, o1 + i, none⟩ = some (.bool (lv i))) (hb2 : b2 < w.heap.size) (hc2 : ∀ i, i < n → w.cell? ⟨b2, o2 + i, none⟩ = some (.bool (h i))) :
    Calls Try.prog 6 #[.int .i64 d, .int .i64 n, .int .i64 home, .slice (some ⟨b1, o1, none⟩) n k1, .slice (some ⟨b2, o2, none⟩) n k2] w fun e w' => e = .returned (.bool true) ∧ Below w.heap.size w w' := by
  have hne : ((n : Int) != (n : Int)) = false := by simp
  have HC1 := (⟨hc1⟩ : PLift _)
  have HC2 := (⟨hc2⟩ : PLift _)
  clear hc1 hc2
  have hKids := kids_kids (h := h) hd hh
  obtain ⟨K, hKe⟩ : ∃ K, K = KK d n home h := ⟨_, rfl⟩
  obtain ⟨T, hTe⟩ : ∃ T, T = TT d n home lv h := ⟨_, rfl⟩
  have HK : Hid (K = KK d n home h) := hKe
  have HT : Hid (T = TT d n home lv h) := hTe
  rw [← hKe] at hKids
  clear hKe hTe
  have hmk := run_make_row' (P := Try.prog) 22 4 (.bool false) 1 Try.underlying22 Try.info4 rfl .i64 .i64 n (by omega) (by omega)
  go_enter Try.func6, Try.ntmps6
  go_wp2_with (go_at_call 19; refine (bytes19_yes _ _ _ _ _ _ _ _ _ _ (by omega)).mono ?_; rintro e w' ⟨rfl, rfl⟩)
  refine (clone_any b1 o1 n k1 lv w hn hb1 HC1.down).mono ?_
  rintro e w1 ⟨lg, rfl, hlg, hr1, hB1⟩
  go_wp2_with fail
  refine (clone_any b2 o2 n k2 h w1 hn (Nat.lt_of_lt_of_le hb2 hB1.size) (fun i hi => (hB1.cell (p := ⟨b2, o2 + i, none⟩) hb2).trans (HC2.down i hi))).mono ?_
  rintro e w2 ⟨hg, rfl, hhg, hr2, hB2⟩
  go_wp2_with (first | (go_at_call 11; refine (lists_any d n _ hd hd2 (by omega) hn).mono ?_; rintro e w3 ⟨G, V, rfl, hG, hLs, hB3⟩) | (go_at_call 20; refine (ways_any d n home _ hd hd2 hh hn).mono ?_; rintro e w4 ⟨wg, rfl, hwg, hrw, hB4⟩))
  have LB4 := (⟨(((BRow.of hr1).later hB2).later hB3).later hB4⟩ : PLift (BRow w4 lg n lv))
  have HB4 := (⟨((BRow.of hr2).later hB3).later hB4⟩ : PLift (BRow w4 hg n h))
  have LL4 := (⟨(LInts.of hLs).later hB4⟩ : PLift (LInts w4 G d n V))
  have WR4 := (⟨IRow.of hrw⟩ : PLift (IRow w4 wg n (twd d home)))
  have hB14 : Below w.heap.size w w4 := hB1.trans ((hB2.mono hB1.size).trans ((hB3.mono (Nat.le_trans hB1.size hB2.size)).trans (hB4.mono (Nat.le_trans hB1.size (Nat.le_trans hB2.size hB3.size)))))
  clear hr1 hr2 hLs hrw hB1 hB2 hB3 hB4 hlg hhg hG hwg HC1 HC2
  go_loopw [15] (fun v wr => ∃ k : Nat, k ≤ n ∧ v = .int .i64 k ∧ wr.rowIs w4.heap.size 4 n (fun x => .bool (pkTo d K k x)) ∧ wr.rowIs (w4.heap.size + 1) 4 n (fun x => .bool (UpTo k T x)) ∧ Below w4.heap.size w4 wr) (fun v _ => n - (intOf v).toNat)
  case atStart => exact ⟨0, Nat.zero_le _, rfl, ((World.rowIs_made w4 (.bool false) n 4).congr (fun i _ => by rw [pkTo_zero])).alloc _, downTo_up w4 n T _, ((Below.refl _ _).alloc (Nat.le_refl _) _).alloc (by simp) _⟩
  case round =>
    obtain ⟨k, hk, rfl, hrp, hrt, hbel⟩ := hrel
    by_cases hlt : k < n
    · have LB := LB4.down.later hbel
      have HB := HB4.down.later hbel
      have LL := LL4.down.later hbel
      have WR := WR4.down.later hbel
      have eV := (LL.2 k hlt).1
      have eW := WR.2 k hlt
      have hkI : (k : Int) < (n : Int) := by omega
      have hmod := model_any d n home k hg 0 (V k) h wr.drew hd hn hh hlt HB.1 HB.2 ((LL.2 k hlt).2.below (Below.refl _ _).drew)
      have HMD := (⟨hmod⟩ : PLift _)
      have HRP := (⟨hrp⟩ : PLift _)
      have HRT := (⟨hrt⟩ : PLift _)
      have HLB := (⟨LB⟩ : PLift (BRow wr lg n lv))
      have HWR := (⟨WR⟩ : PLift (IRow wr wg n (twd d home)))
      clear hmod hrp hrt LB HB LL WR
      go_wp2
      go_region_with (go_at_call 12; refine HMD.down.mono ?_; rintro e w5 ⟨u, rfl, hI, hb5⟩)
      all_goals
        have hb5' : Below wr.heap.size wr w5 := (Below.refl _ _).drew.trans hb5
        have hI' : IntsAt w5 wr.heap.size u (K k) := by rw [HK.out]; exact hI
        have hlen : (K k).length ≤ 65536 := by rw [HK.out]; exact kidsL_len hd hh hn
        have hKk := hKids k hlt
        have hsz4 : w4.heap.size + 1 < wr.heap.size := HRT.down.lt
        have HP5 := (⟨rowIs_later HRP.down hb5'⟩ : PLift (w5.rowIs w4.heap.size 4 n (fun x => .bool (pkTo d K k x))))
        have HT5 := (⟨rowIs_later HRT.down hb5'⟩ : PLift (w5.rowIs (w4.heap.size + 1) 4 n (fun x => .bool (UpTo k T x))))
        have HL5 := (⟨HLB.down.later hb5'⟩ : PLift (BRow w5 lg n lv))
        have HW5 := (⟨HWR.down.later hb5'⟩ : PLift (IRow w5 wg n (twd d home)))
        have hB5 : Below w4.heap.size w4 w5 := hbel.trans (hb5'.mono (by omega))
        obtain ⟨ao, ucap, hu, hfm⟩ := uform hI'
        have hTv : T k = (lv k && !hasB (K k) (twd d home k)) := by rw [HT.out, HK.out]; rfl
        have HTv : Hid (T k = (lv k && !hasB (K k) (twd d home k))) := hTv
        have HFM := (⟨hfm⟩ : PLift _)
        have hlgne : lg < w4.heap.size := LB4.down.1
        have hwgne : wg < w4.heap.size := WR4.down.1
        clear hI hI' hb5 hb5' HMD HRP HRT HLB HWR eV eW hbel hTv hfm
        subst hu
        obtain ⟨m, hm⟩ : ∃ m, (K k).length = m := ⟨_, rfl⟩
        rw [hm] at hlen HFM ⊢
        have Hm : Hid ((K k).length = m) := hm
        have HKk : Hid ((K k).Nodup ∧ ∀ x, x ∈ K k → 1 ≤ x ∧ x < n ∧ (x - 1) / d = k) := hKk
        clear hm hKk
        go_wp2
        go_loopw [17] (fun i wx => ∃ j : Nat, j ≤ m ∧ i = .int .i64 j ∧ wx.rowIs w4.heap.size 4 n (fun x => .bool (pkAt d K k j x)) ∧ w5.grownBy wx (some w4.heap.size)) (fun i _ => m - (intOf i).toNat)
        case atStart => exact ⟨0, Nat.zero_le _, rfl, HP5.down.congr (fun i _ => by rw [pkAt_zero]), World.grownBy.refl _ _⟩
        case round =>
          obtain ⟨j, hj, rfl, hrow, hgr⟩ := hrel
          by_cases hjm : j < m
          · obtain ⟨gx, rfl, hgx1, hgx2, hcc⟩ := HFM.down (by omega)
            obtain ⟨x, hx⟩ : ∃ x, (K k).getD j 0 = x := ⟨_, rfl⟩
            have hxL := getD_some' Hm.out hjm hx
            obtain ⟨q1, q2, q3⟩ := HKk.out.2 x (List.mem_of_getElem? hxL)
            have e1 : wr.cell? ⟨gx, j, none⟩ = some (.int .i64 (x : Int)) := (hgr.cell_far ⟨gx, j, none⟩ hgx2 (by simp; omega)).trans (by rw [hcc j hjm, hx])
            have e2 := hrow.cell q2
            have f2 := hrow.frozen x
            have R := pk_step hrow hxL
            have GR := grownBy_set hgr x (.bool true)
            clear hrow hgr hcc hx hxL
            go_wp2
            go_roundw
            case rel => exact ⟨j + 1, by omega, by go_num, R, GR⟩
            case measure => simp [intOf]; omega
          · obtain rfl : j = m := by omega
            rename World => w7
            have hrow7 : w7.rowIs w4.heap.size 4 n (fun x => .bool (pkTo d K (k + 1) x)) := hrow.congr (fun i _ => by rw [pkAt_full hKids hlt Hm.out.symm])
            have hT7 : w7.rowIs (w4.heap.size + 1) 4 n (fun x => .bool (UpTo k T x)) := HT5.down.of_block (hgr.block _ HT5.down.lt (by simp))
            have eL : w7.cell? ⟨lg, k, none⟩ = some (.bool (lv k)) := (hgr.cell_far ⟨lg, k, none⟩ HL5.down.1 (by simp; omega)).trans (HL5.down.2 k hlt)
            have eW : w7.cell? ⟨wg, k, none⟩ = some (.int .i64 (twd d home k)) := (hgr.cell_far ⟨wg, k, none⟩ HW5.down.1 (by simp; omega)).trans (HW5.down.2 k hlt)
            have eT := hT7.cell hlt
            have fT := hT7.frozen k
            have hB7 : Below w4.heap.size w4 w7 := hB5.grown hgr hB5.size (fun i hi => by cases hi; exact Nat.le_refl _)
            have HF := (⟨has_some ao j ucap (K k) (twd d home k) w7 Hm.out hlen (fun h0 => by
              obtain ⟨gx, e, hgx1, hgx2, hcc⟩ := HFM.down h0
              exact ⟨gx, e, Nat.lt_of_lt_of_le hgx2 hgr.size, fun i hi => (hgr.cell_far ⟨gx, i, none⟩ hgx2 (by simp; omega)).trans (hcc i hi)⟩)⟩ : PLift _)
            have HP7 := (⟨hrow7⟩ : PLift _)
            have HT7 := (⟨hT7⟩ : PLift _)
            clear hrow hgr hrow7 hT7 HFM HP5 HT5 HL5 HW5 hB5
            by_cases hl : lv k = true
            · rw [hl] at eL
              by_cases hhas : hasB (K k) (twd d home k) = true
              · have HH : Hid (hasB (K k) (twd d home k) = true) := hhas
                have HT0 : Hid (T k = false) := by show T k = false; rw [HTv.out, hl, hhas]; rfl
                clear hl hhas
                go_wp2_with (go_at_call 21; refine HF.down.mono ?_; rintro e w8 ⟨rfl, rfl⟩; rw [HH.out])
                go_roundw
                case rel => exact ⟨k + 1, by omega, by go_num, HP7.down.setOther (by simp) _, upTo_step HT7.down HT0.out.symm, hB7.setCell (by simp) _⟩
                case measure => simp [intOf]; omega
              · have hhas' : hasB (K k) (twd d home k) = false := by simpa using hhas
                have HH : Hid (hasB (K k) (twd d home k) = false) := hhas'
                have HT0 : Hid (T k = true) := by show T k = true; rw [HTv.out, hl, hhas']; rfl
                clear hl hhas hhas'
                go_wp2_with (go_at_call 21; refine HF.down.mono ?_; rintro e w8 ⟨rfl, rfl⟩; rw [HH.out])
                go_roundw
                case rel => exact ⟨k + 1, by omega, by go_num, HP7.down.setOther (by simp) _, upTo_step HT7.down HT0.out.symm, hB7.setCell (by simp) _⟩
                case measure => simp [intOf]; omega
            · have hl' : lv k = false := by simpa using hl
              rw [hl'] at eL
              have HT0 : Hid (T k = false) := by show T k = false; rw [HTv.out, hl']; rfl
              clear hl hl' HF
              go_wp2
              go_roundw
              case rel => exact ⟨k + 1, by omega, by go_num, HP7.down.setOther (by simp) _, upTo_step HT7.down HT0.out.symm, hB7.setCell (by simp) _⟩
              case measure => simp [intOf]; omega
    · obtain rfl : k = n := by omega
      rename World => w6
      have LB6 := (⟨LB4.down.later hbel⟩ : PLift (BRow w6 lg k lv))
      have HB6 := (⟨HB4.down.later hbel⟩ : PLift (BRow w6 hg k h))
      have LP6 := (⟨BRow.of hrp⟩ : PLift (BRow w6 w4.heap.size k (pkTo d K k)))
      have LT6 := (⟨BRow.of (hrt.congr (fun i hi => by simp [UpTo, hi]))⟩ : PLift (BRow w6 (w4.heap.size + 1) k T))
      have hB16 : Below w.heap.size w w6 := hB14.trans (hbel.mono hB14.size)
      clear LB4 HB4 LL4 WR4 hrp hrt hbel hB14
      obtain ⟨RC, hRe⟩ : ∃ RC, RC = reached d K T := ⟨_, rfl⟩
      have HRC : Hid (RC = reached d K T) := hRe
      have hR0 : RC 0 = true := by rw [hRe]; exact reached_zero _ _ _
      have hup := upTo_root w6 k RC (by omega) hR0
      have HUP := (⟨hup⟩ : PLift _)
      have hk0 : 0 < k := by omega
      have hm0 : (madeCells #[Value.bool false] k)[0]? = some (.bool false) := by simp [madeCells, hk0]
      clear hRe hup hR0
      go_wp2
      go_loopw [19] (fun c wr => ∃ j : Nat, 1 ≤ j ∧ j ≤ k ∧ c = .int .i64 j ∧ wr.rowIs w6.heap.size 4 k (fun x => .bool (UpTo j RC x)) ∧ Below w6.heap.size w6 wr) (fun c _ => k - (intOf c).toNat)
      case atStart => exact ⟨1, Nat.le_refl _, by omega, rfl, HUP.down, (Below.refl _ _).alloc (Nat.le_refl _) _⟩
      case round =>
        clear HUP
        obtain ⟨j, hj1, hj, rfl, hrow, hbx⟩ := hrel
        by_cases hlt2 : j < k
        · obtain ⟨p, hpe⟩ : ∃ p, (j - 1) / d = p := ⟨_, rfl⟩
          have hp : p < j := by rw [← hpe]; exact par_lt (by omega)
          have hpI : ((j : Int) - 1) / (d : Int) = (p : Int) := by rw [← hpe]; exact par_int (by omega)
          have er : RC j = (RC p && !T p && pkTo d K k j) := by
            rw [HRC.out, reached_pos (by omega), hpe]
            unfold pkTo
            rw [hpe]
            have : decide (p < k) = true := by simp; omega
            rw [this, Bool.true_and]
          have HER : Hid (RC j = (RC p && !T p && pkTo d K k j)) := er
          have e1 : wr.cell? ⟨w6.heap.size, p, none⟩ = some (.bool (RC p)) := by
            rw [hrow.cell (i := p) (by omega)]; simp [UpTo, hp]
          have e2 : wr.cell? ⟨w4.heap.size + 1, p, none⟩ = some (.bool (T p)) := (hbx.cell (p := ⟨w4.heap.size + 1, p, none⟩) LT6.down.1).trans (LT6.down.2 p (by omega))
          have e3 : wr.cell? ⟨w4.heap.size, j, none⟩ = some (.bool (pkTo d K k j)) := (hbx.cell (p := ⟨w4.heap.size, j, none⟩) LP6.down.1).trans (LP6.down.2 j hlt2)
          have e4 := hrow.cell hlt2
          have f4 := hrow.frozen j
          have HRO := (⟨hrow⟩ : PLift _)
          obtain ⟨pb, hpb⟩ : ∃ pb, pkTo d K k j = pb := ⟨_, rfl⟩
          rw [hpb] at e3 HER
          clear er hrow hpe hpb
          by_cases q1 : RC p = true
          · rw [q1] at e1
            by_cases q2 : T p = true
            · rw [q2] at e2
              have HV : Hid (false = RC j) := by show false = RC j; rw [HER.out, q1, q2]; rfl
              clear q1 q2
              go_wp2
              go_roundw
              case rel => exact ⟨j + 1, by omega, by omega, by go_num, upTo_step HRO.down HV.out, hbx.setCell (Nat.le_refl _) _⟩
              case measure => simp [intOf]; omega
            · have q2' : T p = false := by simpa using q2
              rw [q2'] at e2
              have HV : Hid (pb = RC j) := by show pb = RC j; rw [HER.out, q1, q2']; rfl
              clear q1 q2 q2'
              go_wp2
              go_roundw
              case rel => exact ⟨j + 1, by omega, by omega, by go_num, upTo_step HRO.down HV.out, hbx.setCell (Nat.le_refl _) _⟩
              case measure => simp [intOf]; omega
          · have q1' : RC p = false := by simpa using q1
            rw [q1'] at e1
            have HV : Hid (false = RC j) := by show false = RC j; rw [HER.out, q1']; rfl
            clear q1 q1'
            go_wp2
            go_roundw
            case rel => exact ⟨j + 1, by omega, by omega, by go_num, upTo_step HRO.down HV.out, hbx.setCell (Nat.le_refl _) _⟩
            case measure => simp [intOf]; omega
        · obtain rfl : j = k := by omega
          rename World => w8
          have LR8 := (⟨BRow.of (hrow.congr (fun i hi => by simp [UpTo, hi]))⟩ : PLift (BRow w8 w6.heap.size j RC))
          have LT8 := (⟨LT6.down.later hbx⟩ : PLift (BRow w8 (w4.heap.size + 1) j T))
          have LB8 := (⟨LB6.down.later hbx⟩ : PLift (BRow w8 lg j lv))
          have HB8 := (⟨HB6.down.later hbx⟩ : PLift (BRow w8 hg j h))
          have hB18 : Below w.heap.size w w8 := hB16.trans (hbx.mono hB16.size)
          obtain ⟨i0, hi, hz0, hz1, hz2⟩ := info_parts Try.info3
          clear hrow hbx LP6 LT6 LB6 HB6 hB16
          go_wp2
          go_loopw [21, 22] (fun v u wr => ∃ q : Nat, ∃ ao : Option Addr, ∃ cp : Nat, q ≤ j ∧ u = .int .i64 q ∧ v = .slice ao (wantL d K T q).length cp ∧ wr.ownsRow w8.heap.size 3 1 (.slice ao (wantL d K T q).length cp) (wantL d K T q).length ((wantL d K T q).map fun x : Nat => Value.int .i64 x) ∧ Hid (wantL d K T q = [] → ao = none ∧ cp = 0) ∧ Below w8.heap.size w8 wr) (fun _ u _ => j - (intOf u).toNat)
          case atStart => exact ⟨0, none, 0, Nat.zero_le _, rfl, rfl, World.ownsRow_nil _ _ _ _, fun _ => ⟨rfl, rfl⟩, Below.refl _ _⟩
          case round =>
            obtain ⟨q, ao, cp, hq, rfl, rfl, hown, hnil, hbx⟩ := hrel
            have hwl := wantL_le d K T q
            by_cases hlt3 : q < j
            · have e1 : wr.cell? ⟨w6.heap.size, q, none⟩ = some (.bool (RC q)) := (hbx.cell (p := ⟨w6.heap.size, q, none⟩) LR8.down.1).trans (LR8.down.2 q hlt3)
              have e2 : wr.cell? ⟨w4.heap.size + 1, q, none⟩ = some (.bool (T q)) := (hbx.cell (p := ⟨w4.heap.size + 1, q, none⟩) LT8.down.1).trans (LT8.down.2 q hlt3)
              have hsucc := wantL_succ d K T q
              rw [← HRC.out] at hsucc
              obtain ⟨L, hL⟩ : ∃ L, wantL d K T q = L := ⟨_, rfl⟩
              rw [hL] at hown hnil hwl hsucc ⊢
              have hsz8 := hbx.size
              clear hL
              by_cases q1 : RC q = true
              · rw [q1] at e1 hsucc
                by_cases q2 : T q = true
                · rw [q2] at e2 hsucc
                  have HS : Hid (wantL d K T (q + 1) = L ++ [q]) := by show wantL d K T (q + 1) = L ++ [q]; rw [hsucc]; rfl
                  clear hsucc q1 q2
                  go_wp2_with (at_builtin; refine wpList_append_lies _ rfl _ _ 27 rfl w8.heap.size 3 i0 (.int .i64 0) 1 8 Try.underlying27 hi hz0 hz1 hz2 rfl (by omega) (.slice ao L.length cp) L.length _ rfl (hown.alloc _) ⟨wr.heap.size, 0, none⟩ 1 1 [.int .i64 (q : Int)] rfl rfl (cell_one_new _ _ _) (by intro u hu; simp at hu; subst hu; rfl) (by omega) (by unfold maxLen; omega) (by omega) (by simp; omega) (wr.heap.size + 1) (by simp) ?_; intro g' cp1 w9 hown1 hgrow hat hlt1)
                  go_roundw
                  case rel =>
                    rw [map_snoc1] at hown1
                    refine ⟨q + 1, some ⟨g', 0, none⟩, cp1, by omega, by go_num, ?_, ?_, ?_, model_more (x := 0) (L := L) hbx (fun i hi => (hown.lt i hi).1) hgrow⟩
                    · rw [HS.out]; simp
                    · rw [HS.out]; simpa using hown1
                    · rw [HS.out]; intro e; simp at e
                  case measure => simp [intOf]; omega
                · have q2' : T q = false := by simpa using q2
                  rw [q2'] at e2 hsucc
                  have HS : Hid (wantL d K T (q + 1) = L) := by show wantL d K T (q + 1) = L; rw [hsucc]; simp
                  clear hsucc q1 q2 q2'
                  go_wp2
                  go_roundw
                  case rel => exact ⟨q + 1, ao, cp, by omega, by go_num, by rw [HS.out], by rw [HS.out]; exact hown, by rw [HS.out]; exact hnil, hbx⟩
                  case measure => simp [intOf]; omega
              · have q1' : RC q = false := by simpa using q1
                rw [q1'] at e1 hsucc
                have HS : Hid (wantL d K T (q + 1) = L) := by show wantL d K T (q + 1) = L; rw [hsucc]; simp
                clear hsucc q1 q1'
                go_wp2
                go_roundw
                case rel => exact ⟨q + 1, ao, cp, by omega, by go_num, by rw [HS.out], by rw [HS.out]; exact hown, by rw [HS.out]; exact hnil, hbx⟩
                case measure => simp [intOf]; omega
            · obtain rfl : q = j := by omega
              rename World => wa
              have hWA : IntsAt wa w8.heap.size (.slice ao (wantL d K T q).length cp) (wantL d K T q) := intsAt_own (n := 0) hown hnil.out
              have LBa := (⟨LB8.down.later hbx⟩ : PLift (BRow wa lg q lv))
              have HBa := (⟨HB8.down.later hbx⟩ : PLift (BRow wa hg q h))
              have hB1a : Below w.heap.size w wa := hB18.trans (hbx.mono hB18.size)
              have hrd : wantL d K T q = readL d q (KK d q home h) (TT d q home lv h) := by rw [HK.out, HT.out]; rfl
              obtain ⟨L, hL⟩ : ∃ L, wantL d K T q = L := ⟨_, rfl⟩
              rw [hL] at hWA hwl hrd ⊢
              have HRD : Hid (L = readL d q (KK d q home h) (TT d q home lv h)) := hrd
              clear hown hnil hbx LR8 LT8 LB8 HB8 hB18 hL hrd
              go_wp2_with (go_at_call 14; refine (zzToward_any d q home _ hd hd2 hh hn).mono ?_; rintro e wb ⟨tg, rfl, ht1, hrb, hBb⟩)
              refine (zzRead_any d q home lg tg hg lv h _ ⟨hd, hd2, hn, hh, (LBa.down.later hBb).1, hrb.lt, (HBa.down.later hBb).1, (LBa.down.later hBb).2, fun i hi => hrb.cell hi, (HBa.down.later hBb).2⟩).mono ?_
              rintro e wc ⟨u2, rfl, hIc, hBc⟩
              rw [← HRD.out] at hIc
              have hWc : IntsAt wc w8.heap.size (.slice ao L.length cp) L := (hWA.below hBb).below hBc
              have hB1c : Below w.heap.size w wc := hB1a.trans ((hBb.mono hB1a.size).trans (hBc.mono (Nat.le_trans hB1a.size hBb.size)))
              have HSM := (⟨same_any u2 _ _ _ L wc (by omega) hIc hWc⟩ : PLift _)
              clear hWA hWc hIc hrb ht1 hBb hBc hB1a
              go_wp2_with (go_at_call 16; refine HSM.down.mono ?_; rintro e wd ⟨rfl, hBd⟩)
              go_ret
              exact ⟨rfl, hB1c.trans (hBd.mono hB1c.size)⟩
end Go.Proofs.Qxb6600850a
