/- 'Rows.FnReadGivesALiveReadQuorumSaid' PROVED. -/
import Derived.Test.Qxb6600850aBools
import Derived.Test.Qxb6600850aQuorum
import Derived.Test.Qxb6600850aQuorumW
import Derived.Test.Qxb6600850aQuorumEarly
namespace Go.Proofs.Qxb6600850a.fnReadGivesALiveReadQuorum
open Go.ChangeShapes Go.WideShapes Go.ChangeAt Go.RowKit
set_option linter.unusedVariables false

theorem walk (a0 a1 a2 : Int) (a4 : Option Addr) (len cap : Nat) (bw : Bool) (B : Nat → Bool) (w : World) (w0 : (Lit.int .i64 a0).wf = true) (hI : IsBools w a4 len cap B) :
    Calls Try.prog 7 #[.int .i64 a0, .int .i64 a1, .int .i64 a2, .slice a4 len cap, .bool bw] w fun e w' => e = .returned (.bool true) ∧ Below w.heap.size w w' := by
  have hle := hI.le
  unfold maxLen at hle
  by_cases hbad : 65536 < len ∨ a0 < 1 ∨ a1 < 1 ∨ 65536 < a1 ∨ a2 < 0 ∨ a1 ≤ a2 ∨ (len : Int) ≠ a1
  · refine (quorum_early a0 a1 a2 a4 len cap bw w (by omega) hbad).mono fun e w' ⟨he, hw⟩ => ?_
    subst hw
    exact ⟨he, Below.refl _ _⟩
  · have hb := bounds_i64 w0
    obtain ⟨d, rfl⟩ : ∃ d : Nat, a0 = (d : Int) := ⟨a0.toNat, by omega⟩
    obtain ⟨home, rfl⟩ : ∃ d : Nat, a2 = (d : Int) := ⟨a2.toNat, by omega⟩
    obtain rfl : a1 = (len : Int) := by omega
    obtain ⟨b, off, rfl, hbl, hc⟩ := hI.some (by omega)
    cases bw
    · exact quorum_read d len home b off cap B w (by omega) (by omega) (by omega) (by omega) hbl hc
    · exact quorum_write d len home b off cap B w (by omega) (by omega) (by omega) (by omega) hbl hc

/-! ### THE ROW's STEP -/
set_option maxRecDepth 100000 in
theorem lifted (os : Os) (started : os.Started) (H : Type) (enc : TypeId × Value → H) :
    ReturnsInHanded {} Try.checked os 7 .any (Rows.fnReadGivesALiveReadQuorumSpec.pre6 enc Try.prog Try.f7 Rows.fnReadGivesALiveReadQuorumRow.domain false) (Rows.fnReadGivesALiveReadQuorumSpec.post enc Try.prog Try.f7 false true false false) := by
  refine returnsInHanded_of_change (C := Try.checked) own started (by kernel_rfl) Try.func7
    (ChangeSpec.witness6 (enc := enc) (C := Try.checked) false ⟨#[], #[.int .i64 0, .int .i64 0, .int .i64 0, .slice none 0 0, .bool false], []⟩ 8 (by kernel_rfl) (by kernel_rfl) (by kernel_rfl) (by kernel_rfl)) ?_
  intro W base args ds gs before hval0 hW hcnd _
  have hval : ∀ (j : Nat) t v, Try.f7.params[j]? = some t → args[j]? = some v → Value.okWide Try.prog W .any base t v := hval0
  have hW' := hW
  obtain ⟨p, q, hA0, hV, rfl, hfz, hnd⟩ := hW
  have hA : DataW.TrodAll enc Try.prog W 0 (fun _ => true) true Try.f7.params.toList args.toList ds p := hA0
  rw [Try.params7] at hA hval
  obtain ⟨v0, vs0, d0, ds0, p0, q0, hargs, rfl, rfl, h0, r0⟩ := trodAll_cons hA
  obtain ⟨v1, vs1, d1, ds1, p1, q1, rfl, rfl, rfl, h1, r1⟩ := trodAll_cons r0
  obtain ⟨v2, vs2, d2, ds2, p2, q2, rfl, rfl, rfl, h2, r2⟩ := trodAll_cons r1
  obtain ⟨v3, vs3, d3, ds3, p3, q3, rfl, rfl, rfl, h3, r3⟩ := trodAll_cons r2
  obtain ⟨v4, vs4, d4, ds4, p4, q4, rfl, rfl, rfl, h4, r4⟩ := trodAll_cons r3
  obtain ⟨rfl, rfl, rfl⟩ := trodAll_nil r4
  obtain rfl : args = #[v0, v1, v2, v3, v4] := by cases args; simp_all
  obtain ⟨rfl, rfl⟩ := trodVars_none hV
  obtain ⟨a0, rfl, rfl, rfl, w0⟩ := open_int Try.underlying3 (hval 0 3 v0 rfl rfl) h0
  obtain ⟨a1, rfl, rfl, rfl, w1⟩ := open_int Try.underlying3 (hval 1 3 v1 rfl rfl) h1
  obtain ⟨a2, rfl, rfl, rfl, w2⟩ := open_int Try.underlying3 (hval 2 3 v2 rfl rfl) h2
  obtain ⟨a3, len, cap, rfl⟩ := okWide_slice Try.underlying22 (hval 3 22 v3 rfl rfl)
  have k3 := h3
  have lt3 : ∀ x ∈ p3, x.block < W.heap.size := by obtain ⟨m, hm⟩ := k3; exact DataW.trod_lt m _ _ _ hm
  obtain ⟨B, hI⟩ := isBools_of_trod h3
  obtain ⟨a4, rfl, rfl, rfl⟩ := open_bool Try.underlying4 (hval 4 4 v4 rfl rfl) h4
  clear hA0 hval0
  refine (walk a0 a1 a2 a3 len cap a4 B W w0 hI).mono fun e W' ⟨he, bel⟩ => ?_
  subst he
  exact ⟨_, rfl, _, _, _, [], _, [], hW', trodAll_mk1 (shut_bool Try.underlying4 _), (trodAll_cons_mk (shut_int Try.underlying3 w0) (trodAll_cons_mk (shut_int Try.underlying3 w1) (trodAll_cons_mk (shut_int Try.underlying3 w2) (trodAll_cons_mk (Below.trod laidOut (by kernel_rfl) (of_decide_eq_true (by kernel_rfl)) k3 bel lt3) (trodAll_cons_mk (shut_bool Try.underlying4 a4) trodAll_mk0))))), rfl, bel.frame _, fun h => by cases h⟩

theorem over : Rows.fnReadGivesALiveReadQuorumRow.holds Try.pinned (OpenSpec.ofChange Rows.fnReadGivesALiveReadQuorumSpec) :=
  OpenClaim.holds_of_wide 7 Try.f7 rfl rfl rfl rfl rfl rfl rfl ⟨rfl, rfl, rfl, rfl, rfl⟩ rfl rfl rfl rfl rfl (by kernel_rfl) Try.func7 (by kernel_rfl)
    (of_decide_eq_true (by kernel_rfl)) (by unfold Func.isWrapper; first | (rw [if_pos (by decide +kernel)]; kernel_rfl) | (rw [if_neg (by decide +kernel)]; exact ⟨rfl, rfl⟩))
    (fun os started H enc _ => lifted os started H enc)

/-- THE STATEMENT -/
theorem proved : Rows.FnReadGivesALiveReadQuorumSaid := over
#print axioms proved
end Go.Proofs.Qxb6600850a.fnReadGivesALiveReadQuorum
