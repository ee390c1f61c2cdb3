/- FnKidsIsFirstHeldMajorityFromTheStartChild (function 3): the walk. -/
import Derived.Test.Qxb6600850aSame
import Derived.Test.Qxb6600850aLists
import Derived.Test.Qxb6600850aZzKids
import Derived.Deep.RegionWith
namespace Go.Proofs.Qxb6600850a
open Go.RowKit
set_option linter.unusedVariables false

set_option maxHeartbeats 400000 in
theorem bytes9_yes (a0 a1 a2 a3 : Int) (a : Option Addr) (len cap : Nat) (w : World) (hl : len ≤ 1048576) :
    Calls Try.prog 9 #[.int .i64 a0, .int .i64 a1, .int .i64 a2, .int .i64 a3, .slice a len cap] w fun e w' => e = .returned (.bool true) ∧ w = w' := by
  go_enter Try.func9, Try.ntmps9
  go_wp2
  go_ret
  exact ⟨rfl, rfl⟩

set_option maxHeartbeats 400000 in
theorem bytes9_no (a0 a1 a2 a3 : Int) (a : Option Addr) (len cap : Nat) (w : World) (hl : 1048576 < len) :
    Calls Try.prog 9 #[.int .i64 a0, .int .i64 a1, .int .i64 a2, .int .i64 a3, .slice a len cap] w fun e w' => e = .returned (.bool false) ∧ w = w' := by
  go_enter Try.func9, Try.ntmps9
  go_wp2
  go_ret
  exact ⟨rfl, rfl⟩

theorem kidsL_len {d n home v : Nat} {h : Nat → Bool} (hd : 1 ≤ d) (hh : home < n) (hn : n ≤ 65536) : (kidsL d n home v h).length ≤ 65536 := by
  by_cases e : kidsL d n home v h = []
  · rw [e]; simp
  · rw [kidsL_length hd hh e]
    unfold cnt
    omega

set_option maxRecDepth 100000 in
set_option maxHeartbeats 2000000 in
theorem first_main (d n home v b off cap : Nat) (h : Nat → Bool) (w : World) (hd : 1 ≤ d) (hd2 : d ≤ 9223372036854775807) (hn : n ≤ 65536) (hvn : v < n) (hh : home < n)
    (hb : b < w.heap.size) (hc : ∀ i, i < n → w.cell? ⟨b, off + i, none⟩ = some (.bool (h i))) :
    Calls Try.prog 3 #[.int .i64 d, .int .i64 n, .int .i64 home, .int .i64 v, .slice (some ⟨b, off, none⟩) n cap] w fun e w' => e = .returned (.bool true) ∧ Below w.heap.size w w' := by
  have hcl := clone_any b off n cap h w hn hb hc
  have H1 := (⟨hcl⟩ : PLift _)
  clear hcl hc
  have hne : ((n : Int) != (n : Int)) = false := by simp
  have hvI : (v : Int) < (n : Int) := by omega
  go_enter Try.func3, Try.ntmps3
  go_wp2_with (first | (go_at_call 9; refine (bytes9_yes _ _ _ _ _ _ _ _ (by omega)).mono ?_; rintro e w' ⟨rfl, rfl⟩) | (go_at_call 10; refine H1.down.mono ?_; rintro e w1 ⟨g, rfl, hg1, hr1, hb1⟩) | (go_at_call 11; refine (lists_any d n _ hd hd2 (by omega) hn).mono ?_; rintro e w2 ⟨G, V, rfl, hG, hL, hb2⟩))
  have hcV := hL.top.cell hvn
  have hB2 : Below w.heap.size w w2 := hb1.trans (hb2.mono hb1.size)
  have hgl : g < w2.heap.size := Nat.lt_of_lt_of_le hr1.lt hb2.size
  have hcg : ∀ i, i < n → w2.cell? ⟨g, i, none⟩ = some (.bool (h i)) := fun i hi => (hb2.cell (p := ⟨g, i, none⟩) hr1.lt).trans (hr1.cell hi)
  have hcv := hL.at hvn
  have hmod := model_any d n home v g (G + 1) (V v) h w2.drew hd hn hh hvn hgl hcg (hcv.below (Below.refl _ _).drew)
  have H2 := (⟨hmod⟩ : PLift _)
  have hHL : Hid (IntsAt w2 (G + 1) (V v) (chUp d n v)) := hcv
  clear hmod hcv hL H1
  go_region_with (first | (go_at_call 13; refine (way_any d home v _ hd hd2 (by omega) (by omega)).mono ?_; rintro e w' ⟨rfl, rfl⟩) | (go_at_call 12; refine H2.down.mono ?_; rintro e w3 ⟨u, rfl, hI, hb3⟩))
  all_goals
    have hb3' : Below w2.heap.size w2 w3 := (Below.refl _ _).drew.trans hb3
    have hB3 : Below w.heap.size w w3 := hB2.trans (hb3'.mono hB2.size)
    have hgl3 : g < w3.heap.size := Nat.lt_of_lt_of_le hgl hb3'.size
    have hcg3 : ∀ i, i < n → w3.cell? ⟨g, i, none⟩ = some (.bool (h i)) := fun i hi => (hb3'.cell (p := ⟨g, i, none⟩) hgl).trans (hcg i hi)
    have hI3 : IntsAt w3 w2.heap.size u (kidsL d n home v h) := hI
    clear hI H2 hcg hgl hr1 hb1 hb2 hcV hHL hb3 hb3' hB2
    go_wp2_with (go_at_call 14; refine (zzToward_any d n home _ hd hd2 hh hn).mono ?_; rintro e w4 ⟨tg, rfl, ht1, hr4, hb4⟩)
    refine (zzKids_any d n home v tg g h _ hd hd2 hn hvn hh hr4.lt (Nat.lt_of_lt_of_le hgl3 hb4.size) (hr4.cell hvn) (fun i hi => (hb4.cell (p := ⟨g, i, none⟩) hgl3).trans (hcg3 i hi))).mono ?_
    rintro e w5 ⟨u2, rfl, hI5, hb5⟩
    have hW : IntsAt w5 w2.heap.size u (kidsL d n home v h) := (hI3.below hb4).below hb5
    have hK : IntsAt w5 w4.heap.size u2 (kidsL d n home v h) := hI5.at
    have hlen : (kidsL d n home v h).length ≤ 65536 := kidsL_len hd hh hn
    have hB5 : Below w.heap.size w w5 := hB3.trans ((hb4.mono hB3.size).trans (hb5.mono (Nat.le_trans hB3.size hb4.size)))
    have HF := (⟨same_any u2 u _ _ _ w5 hlen hK hW⟩ : PLift _)
    have hnil := fun w a n c => Lib.run_eql_slice_nil (P := Try.prog) w 27 3 a n c 0 0 Try.underlying27
    clear hI3 hI5 hcg3 hb4 hb5 hr4 hB3
    rcases hW with ⟨e1, rfl⟩ | ⟨e1, g1, c1, rfl, _, _, h1⟩ <;> rcases hK with ⟨e2, rfl⟩ | ⟨e2, g2, c2, rfl, _, _, h2⟩
    · clear e1 e2
      go_wp2_with (go_at_call 16; refine HF.down.mono ?_; rintro e w6 ⟨rfl, hb6⟩)
      go_ret
      exact ⟨rfl, hB5.trans (hb6.mono hB5.size)⟩
    · exact absurd e1 e2
    · exact absurd e2 e1
    · clear e1 e2 h1 h2
      go_wp2_with (go_at_call 16; refine HF.down.mono ?_; rintro e w6 ⟨rfl, hb6⟩)
      go_ret
      exact ⟨rfl, hB5.trans (hb6.mono hB5.size)⟩
end Go.Proofs.Qxb6600850a
