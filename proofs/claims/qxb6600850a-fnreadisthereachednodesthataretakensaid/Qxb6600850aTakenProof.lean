/- 'Rows.FnReadIsTheReachedNodesThatAreTakenSaid' PROVED. -/
import Derived.Test.Qxb6600850aBools
import Derived.Test.Qxb6600850aTaken
import Derived.Test.Qxb6600850aTakenEarly
namespace Go.Proofs.Qxb6600850a.fnReadIsTheReachedNodesThatAreTaken
open Go.ChangeShapes Go.WideShapes Go.ChangeAt Go.RowKit
set_option linter.unusedVariables false

theorem walk (a0 a1 a2 : Int) (a3 a4 : Option Addr) (n1 k1 n2 k2 : Nat) (B1 B2 : Nat → Bool) (w : World) (w0 : (Lit.int .i64 a0).wf = true) (hI1 : IsBools w a3 n1 k1 B1) (hI2 : IsBools w a4 n2 k2 B2) :
    Calls Try.prog 6 #[.int .i64 a0, .int .i64 a1, .int .i64 a2, .slice a3 n1 k1, .slice a4 n2 k2] w fun e w' => e = .returned (.bool true) ∧ Below w.heap.size w w' := by
  have hle1 := hI1.le
  have hle2 := hI2.le
  unfold maxLen at hle1 hle2
  by_cases hbad : 65536 < n1 ∨ 65536 < n2 ∨ a0 < 1 ∨ a1 < 1 ∨ 65536 < a1 ∨ a2 < 0 ∨ a1 ≤ a2 ∨ (n1 : Int) ≠ a1 ∨ (n2 : Int) ≠ a1
  · refine (taken_early a0 a1 a2 a3 a4 n1 k1 n2 k2 w (by omega) (by omega) hbad).mono fun e w' ⟨he, hw⟩ => ?_
    subst hw
    exact ⟨he, Below.refl _ _⟩
  · have hb := bounds_i64 w0
    obtain ⟨d, rfl⟩ : ∃ d : Nat, a0 = (d : Int) := ⟨a0.toNat, by omega⟩
    obtain ⟨home, rfl⟩ : ∃ d : Nat, a2 = (d : Int) := ⟨a2.toNat, by omega⟩
    obtain rfl : a1 = (n1 : Int) := by omega
    obtain rfl : n1 = n2 := by omega
    obtain ⟨b1, o1, rfl, hb1, hc1⟩ := hI1.some (by omega)
    obtain ⟨b2, o2, rfl, hb2, hc2⟩ := hI2.some (by omega)
    exact taken_main d n1 home b1 o1 k1 b2 o2 k2 B1 B2 w (by omega) (by omega) (by omega) (by omega) hb1 hc1 hb2 hc2

/-! ### THE ROW's STEP -/
set_option maxRecDepth 100000 in
theorem lifted (os : Os) (started : os.Started) (H : Type) (enc : TypeId × Value → H) :
    ReturnsInHanded {} Try.checked os 6 .any (Rows.fnReadIsTheReachedNodesThatAreTakenSpec.pre6 enc Try.prog Try.f6 Rows.fnReadIsTheReachedNodesThatAreTakenRow.domain false) (Rows.fnReadIsTheReachedNodesThatAreTakenSpec.post enc Try.prog Try.f6 false true false false) := by
  refine returnsInHanded_of_change (C := Try.checked) own started (by kernel_rfl) Try.func6
    (ChangeSpec.witness6 (enc := enc) (C := Try.checked) false ⟨#[], #[.int .i64 0, .int .i64 0, .int .i64 0, .slice none 0 0, .slice none 0 0], []⟩ 8 (by kernel_rfl) (by kernel_rfl) (by kernel_rfl) (by kernel_rfl)) ?_
  intro W base args ds gs before hval0 hW hcnd _
  have hval : ∀ (j : Nat) t v, Try.f6.params[j]? = some t → args[j]? = some v → Value.okWide Try.prog W .any base t v := hval0
  have hW' := hW
  obtain ⟨p, q, hA0, hV, rfl, hfz, hnd⟩ := hW
  have hA : DataW.TrodAll enc Try.prog W 0 (fun _ => true) true Try.f6.params.toList args.toList ds p := hA0
  rw [Try.params6] at hA hval
  obtain ⟨v0, vs0, d0, ds0, p0, q0, hargs, rfl, rfl, h0, r0⟩ := trodAll_cons hA
  obtain ⟨v1, vs1, d1, ds1, p1, q1, rfl, rfl, rfl, h1, r1⟩ := trodAll_cons r0
  obtain ⟨v2, vs2, d2, ds2, p2, q2, rfl, rfl, rfl, h2, r2⟩ := trodAll_cons r1
  obtain ⟨v3, vs3, d3, ds3, p3, q3, rfl, rfl, rfl, h3, r3⟩ := trodAll_cons r2
  obtain ⟨v4, vs4, d4, ds4, p4, q4, rfl, rfl, rfl, h4, r4⟩ := trodAll_cons r3
  obtain ⟨rfl, rfl, rfl⟩ := trodAll_nil r4
  obtain rfl : args = #[v0, v1, v2, v3, v4] := by cases args; simp_all
  obtain ⟨rfl, rfl⟩ := trodVars_none hV
  obtain ⟨a0, rfl, rfl, rfl, w0⟩ := open_int Try.underlying3 (hval 0 3 v0 rfl rfl) h0
  obtain ⟨a1, rfl, rfl, rfl, w1⟩ := open_int Try.underlying3 (hval 1 3 v1 rfl rfl) h1
  obtain ⟨a2, rfl, rfl, rfl, w2⟩ := open_int Try.underlying3 (hval 2 3 v2 rfl rfl) h2
  obtain ⟨a3, n3, k3, rfl⟩ := okWide_slice Try.underlying22 (hval 3 22 v3 rfl rfl)
  have t3 := h3
  have lt3 : ∀ x ∈ p3, x.block < W.heap.size := by obtain ⟨m, hm⟩ := t3; exact DataW.trod_lt m _ _ _ hm
  obtain ⟨B3, hI3⟩ := isBools_of_trod h3
  obtain ⟨a4, n4, k4, rfl⟩ := okWide_slice Try.underlying22 (hval 4 22 v4 rfl rfl)
  have t4 := h4
  have lt4 : ∀ x ∈ p4, x.block < W.heap.size := by obtain ⟨m, hm⟩ := t4; exact DataW.trod_lt m _ _ _ hm
  obtain ⟨B4, hI4⟩ := isBools_of_trod h4
  clear hA0 hval0
  refine (walk a0 a1 a2 a3 a4 n3 k3 n4 k4 B3 B4 W w0 hI3 hI4).mono fun e W' ⟨he, bel⟩ => ?_
  subst he
  exact ⟨_, rfl, _, _, _, [], _, [], hW', trodAll_mk1 (shut_bool Try.underlying4 _), (trodAll_cons_mk (shut_int Try.underlying3 w0) (trodAll_cons_mk (shut_int Try.underlying3 w1) (trodAll_cons_mk (shut_int Try.underlying3 w2) (trodAll_cons_mk (Below.trod laidOut (by kernel_rfl) (of_decide_eq_true (by kernel_rfl)) t3 bel lt3) (trodAll_cons_mk (Below.trod laidOut (by kernel_rfl) (of_decide_eq_true (by kernel_rfl)) t4 bel lt4) trodAll_mk0))))), rfl, bel.frame _, fun h => by cases h⟩

theorem over : Rows.fnReadIsTheReachedNodesThatAreTakenRow.holds Try.pinned (OpenSpec.ofChange Rows.fnReadIsTheReachedNodesThatAreTakenSpec) :=
  OpenClaim.holds_of_wide 6 Try.f6 rfl rfl rfl rfl rfl rfl rfl ⟨rfl, rfl, rfl, rfl, rfl⟩ rfl rfl rfl rfl rfl (by kernel_rfl) Try.func6 (by kernel_rfl)
    (of_decide_eq_true (by kernel_rfl)) (by unfold Func.isWrapper; first | (rw [if_pos (by decide +kernel)]; kernel_rfl) | (rw [if_neg (by decide +kernel)]; exact ⟨rfl, rfl⟩))
    (fun os started H enc _ => lifted os started H enc)

/-- THE STATEMENT -/
theorem proved : Rows.FnReadIsTheReachedNodesThatAreTakenSaid := over
#print axioms proved
end Go.Proofs.Qxb6600850a.fnReadIsTheReachedNodesThatAreTaken
