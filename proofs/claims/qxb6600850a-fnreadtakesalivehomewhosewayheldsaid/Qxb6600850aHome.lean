/- FnReadTakesALiveHomeWhoseWayHeld (function 8): the walk. -/
import Derived.Test.Qxb6600850aWayHeld
namespace Go.Proofs.Qxb6600850a
open Go.RowKit
set_option linter.unusedVariables false

set_option maxHeartbeats 400000 in
theorem bytes25_yes (a0 a1 a2 : Int) (a b : Option Addr) (n1 c1 n2 c2 : Nat) (w : World) (hl : n1 + n2 ≤ 1048576) :
    Calls Try.prog 25 #[.int .i64 a0, .int .i64 a1, .int .i64 a2, .slice a n1 c1, .slice b n2 c2] w fun e w' => e = .returned (.bool true) ∧ w = w' := by
  go_enter Try.func25, Try.ntmps25
  go_wp2
  go_ret
  exact ⟨rfl, rfl⟩

set_option maxHeartbeats 400000 in
theorem bytes25_no (a0 a1 a2 : Int) (a b : Option Addr) (n1 c1 n2 c2 : Nat) (w : World) (h1 : n1 ≤ 9223372036854775807) (h2 : n2 ≤ 9223372036854775807) (hl : 1048576 < n1 + n2) :
    Calls Try.prog 25 #[.int .i64 a0, .int .i64 a1, .int .i64 a2, .slice a n1 c1, .slice b n2 c2] w fun e w' => e = .returned (.bool false) ∧ w = w' := by
  by_cases q1 : 1048576 < n1
  · go_enter Try.func25, Try.ntmps25
    go_wp2
    go_ret
    exact ⟨rfl, rfl⟩
  · by_cases q2 : 1048576 < n2
    · go_enter Try.func25, Try.ntmps25
      go_wp2
      go_ret
      exact ⟨rfl, rfl⟩
    · go_enter Try.func25, Try.ntmps25
      go_wp2
      go_ret
      exact ⟨rfl, rfl⟩

set_option maxRecDepth 100000 in
set_option maxHeartbeats 2000000 in
theorem home_main (d n home b1 o1 k1 b2 o2 k2 : Nat) (lv h : Nat → Bool) (w : World) (hd : 1 ≤ d) (hd2 : d ≤ 9223372036854775807) (hn : n ≤ 65536) (hh : home < n)
    (hb1 : b1 < w.heap.size) (hc1 : ∀ i, i < n → w.cell? ⟨b1, o1 + i, none⟩ = some (.bool (lv i))) (hb2 : b2 < w.heap.size) (hc2 : ∀ i, i < n → w.cell? ⟨b2, o2 + i, none⟩ = some (.bool (h i))) :
    Calls Try.prog 8 #[.int .i64 d, .int .i64 n, .int .i64 home, .slice (some ⟨b1, o1, none⟩) n k1, .slice (some ⟨b2, o2, none⟩) n k2] w fun e w' => e = .returned (.bool true) ∧ Below w.heap.size w w' := by
  have hne : ((n : Int) != (n : Int)) = false := by simp
  have cH := hc1 home hh
  have HC1 := (⟨hc1⟩ : PLift _)
  have HC2 := (⟨hc2⟩ : PLift _)
  clear hc1 hc2
  by_cases hl : lv home = true
  · rw [hl] at cH
    have HL : Hid (lv home = true) := hl
    clear hl
    go_enter Try.func8, Try.ntmps8
    go_wp2_with (first | (go_at_call 25; refine (bytes25_yes _ _ _ _ _ _ _ _ _ _ (by omega)).mono ?_; rintro e w' ⟨rfl, rfl⟩) | (go_at_call 11; refine (lists_any d n _ hd hd2 (by omega) hn).mono ?_; rintro e w2 ⟨G, V, rfl, hG, hLs, hB2⟩))
    refine (wayHeld_any d n home G b2 o2 k2 h w2 hd hd2 hn hh (LForm.of hLs) (fun i hi => (hB2.cell (p := ⟨b2, o2 + i, none⟩) hb2).trans (HC2.down i hi))).mono ?_
    rintro e w3 ⟨⟨r, rfl, hr⟩, rfl⟩
    have HR : Hid (r = true → WayOk d n home h) := hr
    clear hr hLs hG
    cases r with
    | false =>
      go_wp2
      go_ret
      exact ⟨rfl, hB2⟩
    | true =>
      have HW : Hid (WayOk d n home h) := HR.out rfl
      clear HR
      go_wp2_with fail
      refine (clone_any b1 o1 n k1 lv w2 hn (Nat.lt_of_lt_of_le hb1 hB2.size) (fun i hi => (hB2.cell (p := ⟨b1, o1 + i, none⟩) hb1).trans (HC1.down i hi))).mono ?_
      rintro e w3 ⟨lg, rfl, hlg, hr3, hB3⟩
      have hB13 : Below w.heap.size w w3 := hB2.trans (hB3.mono hB2.size)
      go_wp2_with fail
      refine (clone_any b2 o2 n k2 h w3 hn (Nat.lt_of_lt_of_le hb2 hB13.size) (fun i hi => (hB13.cell (p := ⟨b2, o2 + i, none⟩) hb2).trans (HC2.down i hi))).mono ?_
      rintro e w4 ⟨hg, rfl, hhg, hr4, hB4⟩
      have LB4 := (⟨(BRow.of hr3).later hB4⟩ : PLift (BRow w4 lg n lv))
      have HB4 := (⟨BRow.of hr4⟩ : PLift (BRow w4 hg n h))
      have hB14 : Below w.heap.size w w4 := hB13.trans (hB4.mono hB13.size)
      clear hr3 hr4 hB3 hB4 hB13 hlg hhg
      go_wp2_with (go_at_call 14; refine (zzToward_any d n home _ hd hd2 hh hn).mono ?_; rintro e w5 ⟨tg, rfl, ht1, hr5, hB5⟩)
      refine (zzRead_any d n home lg tg hg lv h _ ⟨hd, hd2, hn, hh, (LB4.down.later hB5).1, hr5.lt, (HB4.down.later hB5).1, (LB4.down.later hB5).2, fun i hi => hr5.cell hi, (HB4.down.later hB5).2⟩).mono ?_
      rintro e w6 ⟨u, rfl, hI, hB6⟩
      have hB16 : Below w.heap.size w w6 := hB14.trans ((hB5.mono hB14.size).trans (hB6.mono (Nat.le_trans hB14.size hB5.size)))
      have hmem := home_member (lv := lv) hd hh HL.out HW.out
      obtain ⟨L, hLe⟩ : ∃ L, L = readL d n (KK d n home h) (TT d n home lv h) := ⟨_, rfl⟩
      have hLn : L.length ≤ n := nodup_length (by rw [hLe]; unfold readL; exact List.filter_sublist.nodup List.nodup_range) (fun x hx => by rw [hLe, mem_readL] at hx; exact hx.1)
      rw [← hLe] at hI hmem
      have HM : Hid (hasB L (home : Int) = true) := hmem
      obtain ⟨ao, gcap, rfl, hfm⟩ := SForm.of hI
      have HF := (⟨has_some ao L.length gcap L home w6 rfl (by omega) hfm⟩ : PLift _)
      clear hI hfm hmem hLe hr5 ht1 hB5 hB6 hB14
      go_wp2_with (go_at_call 21; refine HF.down.mono ?_; rintro e w7 ⟨rfl, rfl⟩; rw [HM.out])
      go_ret
      exact ⟨rfl, hB16⟩
  · have hl' : lv home = false := by simpa using hl
    rw [hl'] at cH
    clear hl hl'
    go_enter Try.func8, Try.ntmps8
    go_wp2_with (go_at_call 25; refine (bytes25_yes _ _ _ _ _ _ _ _ _ _ (by omega)).mono ?_; rintro e w' ⟨rfl, rfl⟩)
    go_ret
    exact ⟨rfl, Below.refl _ _⟩
end Go.Proofs.Qxb6600850a
