/- (picker).read (function 29): the loop. -/
import Derived.Test.Qxb6600850aReadSteps
import Derived.Test.Qxb6600850aZzKids
import Derived.Test.Qxb6600850aFirst
import Derived.Deep.LoopGhost
import Derived.Laws.AppendOwnNone
import Derived.Test.Qxb6600850aShelf
import Derived.Sort.OwnSortedInts
namespace Go.Proofs.Qxb6600850a
open Go.RowKit
set_option linter.unusedVariables false

/-- The chosen children; the taken nodes. -/
abbrev KK (d n home : Nat) (h : Nat → Bool) (v : Nat) : List Nat := kidsL d n home v h
def TT (d n home : Nat) (lv h : Nat → Bool) (v : Nat) : Bool := lv v && !hasB (kidsL d n home v h) (twd d home v)

theorem kids_kids {d n home : Nat} {h : Nat → Bool} (hd : 1 ≤ d) (hh : home < n) : Kids d n (KK d n home h) :=
  fun v _ => ⟨kidsL_nodup hd hh, fun x hx => by obtain ⟨a, b, c, _⟩ := kidsL_mem hd hh hx; exact ⟨a, b, c⟩⟩

abbrev boxP (d n lg home tg : Nat) : Obj := .cells #[.int .i64 d, .int .i64 n, .slice (some ⟨lg, 0, none⟩) n n, .slice none 0 0, .slice none 0 0, .int .i64 home, .slice (some ⟨tg, 0, none⟩) n n] 47

/-- What 'read' is told. -/
structure RArgs (w : World) (d n home lg tg hg : Nat) (lv h : Nat → Bool) : Prop where
  hd : 1 ≤ d
  hd2 : d ≤ 9223372036854775807
  hn : n ≤ 65536
  hh : home < n
  lgl : lg < w.heap.size
  tgl : tg < w.heap.size
  hgl : hg < w.heap.size
  cl : ∀ i, i < n → w.cell? ⟨lg, i, none⟩ = some (.bool (lv i))
  ct : ∀ i, i < n → w.cell? ⟨tg, i, none⟩ = some (.int .i64 (twd d home i))
  ch : ∀ i, i < n → w.cell? ⟨hg, i, none⟩ = some (.bool (h i))

theorem RArgs.later {w wr : World} {d n home lg tg hg : Nat} {lv h : Nat → Bool} (A : RArgs w d n home lg tg hg lv h) (hb : Below w.heap.size w wr) : RArgs wr d n home lg tg hg lv h :=
  ⟨A.hd, A.hd2, A.hn, A.hh, Nat.lt_of_lt_of_le A.lgl hb.size, Nat.lt_of_lt_of_le A.tgl hb.size, Nat.lt_of_lt_of_le A.hgl hb.size,
   fun i hi => (hb.cell (p := ⟨lg, i, none⟩) A.lgl).trans (A.cl i hi), fun i hi => (hb.cell (p := ⟨tg, i, none⟩) A.tgl).trans (A.ct i hi), fun i hi => (hb.cell (p := ⟨hg, i, none⟩) A.hgl).trans (A.ch i hi)⟩

/-- The box's cells, later. -/
theorem box_cells {w wr : World} {d n lg home tg : Nat} (hb : Below (w.heap.size + 1) (w.alloc (boxP d n lg home tg)) wr) :
    wr.cell? ⟨w.heap.size, 0, none⟩ = some (.int .i64 d) ∧ wr.cell? ⟨w.heap.size, 1, none⟩ = some (.int .i64 n) ∧ wr.cell? ⟨w.heap.size, 2, none⟩ = some (.slice (some ⟨lg, 0, none⟩) n n) ∧ wr.cell? ⟨w.heap.size, 3, none⟩ = some (.slice none 0 0) ∧ wr.cell? ⟨w.heap.size, 4, none⟩ = some (.slice none 0 0) ∧ wr.cell? ⟨w.heap.size, 5, none⟩ = some (.int .i64 home) ∧ wr.cell? ⟨w.heap.size, 6, none⟩ = some (.slice (some ⟨tg, 0, none⟩) n n) := by
  refine ⟨?_, ?_, ?_, ?_, ?_, ?_, ?_⟩
  · exact (hb.cell (p := ⟨w.heap.size, 0, none⟩) (by simp)).trans (by simp [boxP])
  · exact (hb.cell (p := ⟨w.heap.size, 1, none⟩) (by simp)).trans (by simp [boxP])
  · exact (hb.cell (p := ⟨w.heap.size, 2, none⟩) (by simp)).trans (by simp [boxP])
  · exact (hb.cell (p := ⟨w.heap.size, 3, none⟩) (by simp)).trans (by simp [boxP])
  · exact (hb.cell (p := ⟨w.heap.size, 4, none⟩) (by simp)).trans (by simp [boxP])
  · exact (hb.cell (p := ⟨w.heap.size, 5, none⟩) (by simp)).trans (by simp [boxP])
  · exact (hb.cell (p := ⟨w.heap.size, 6, none⟩) (by simp)).trans (by simp [boxP])

theorem rinv_start (w : World) (d n : Nat) (K : Nat → List Nat) (T : Nat → Bool) (o : Obj) (hn : 0 < n) :
    RInv (w.alloc o) ((w.alloc o).alloc (.cells #[.int .i64 0] 3)) (w.heap.size + 1) d n K T [] [0] (.slice none 0 0) (.slice (some ⟨w.heap.size + 1, 0, none⟩) 1 1) where
  inv := inv_start d n K T hn
  mem := World.ownsRow_nil _ _ _ _
  stk := by
    have := World.ownsRow_lit (base := w.heap.size + 1) (e := 3) (size := 1) (w.alloc o) #[.int .i64 0] 1 (by simp) (by decide) rfl
    simpa [intsV] using this
  apart := .inl rfl
  below := (Below.refl _ _).alloc (by simp) _
  nil := fun _ => rfl

theorem news_of_row {w : World} {g : Nat} {L : List Nat} (h : w.rowIs g 3 L.length (fun i => .int .i64 (L.getD i 0))) : ∀ j u, (intsV L)[j]? = some u → w.cell? ((⟨g, 0, none⟩ : Addr).add j) = some u := by
  intro j u hu
  have hj : j < L.length := by
    have := (List.getElem?_eq_some_iff.1 hu).1
    simpa [intsV] using this
  have hadd : (⟨g, 0, none⟩ : Addr).add j = ⟨g, j, none⟩ := by unfold Addr.add; split <;> simp_all
  rw [hadd, h.cell hj, ← hu]
  simp [intsV, hj, List.getD]

theorem ints_one (L : List Nat) : ∀ u ∈ intsV L, u.oneCell' = true := by
  intro u hu
  obtain ⟨x, _, rfl⟩ := List.mem_map.1 hu
  rfl

/-- The loop's relation. -/
def RRel (w0 : World) (B d n : Nat) (K : Nat → List Nat) (T : Nat → Bool) (k : Nat) (mv sv : Value) (wr : World) : Prop :=
  ∃ (done stack : List Nat) (ao : Option Addr) (cp g cs : Nat), k + done.length = n ∧ mv = .slice ao (done.filter T).length cp ∧ sv = .slice (some ⟨g, 0, none⟩) stack.length cs ∧ RInv w0 wr B d n K T done stack (.slice ao (done.filter T).length cp) (.slice (some ⟨g, 0, none⟩) stack.length cs)

section
variable {w0 w2 : World} {B d n gk v g cs g' cp' cp : Nat} {K : Nat → List Nat} {T : Nat → Bool} {done st : List Nat} {ao : Option Addr}

theorem rel_taken (hdl : gk + done.length = n) (hgk : 0 < gk) (hT : T v = true) (R : RInv w0 w2 B d n K T (done ++ [v]) (st ++ nxt K T v) (.slice (some ⟨g', 0, none⟩) ((done.filter T).length + 1) cp') (.slice (some ⟨g, 0, none⟩) st.length cs)) :
    RRel w0 B d n K T (gk - 1) (.slice (some ⟨g', 0, none⟩) ((done.filter T).length + 1) cp') (.slice (some ⟨g, 0, none⟩) st.length cs) w2 := by
  have e1 : ((done ++ [v]).filter T).length = (done.filter T).length + 1 := by simp [List.filter_append, hT]
  have e2 : (st ++ nxt K T v).length = st.length := by simp [nxt, hT]
  refine ⟨done ++ [v], st ++ nxt K T v, some ⟨g', 0, none⟩, cp', g, cs, by simp; omega, by rw [e1], by rw [e2], ?_⟩
  rw [e1, e2]
  exact R

theorem rel_pushed (hdl : gk + done.length = n) (hgk : 0 < gk) (hT : T v = false) (R : RInv w0 w2 B d n K T (done ++ [v]) (st ++ nxt K T v) (.slice ao (done.filter T).length cp) (.slice (some ⟨g', 0, none⟩) (st.length + (K v).length) cs)) :
    RRel w0 B d n K T (gk - 1) (.slice ao (done.filter T).length cp) (.slice (some ⟨g', 0, none⟩) (st.length + (K v).length) cs) w2 := by
  have e1 : ((done ++ [v]).filter T).length = (done.filter T).length := by simp [List.filter_append, hT]
  have e2 : (st ++ nxt K T v).length = st.length + (K v).length := by simp [nxt, hT]
  refine ⟨done ++ [v], st ++ nxt K T v, ao, cp, g', cs, by simp; omega, by rw [e1], by rw [e2], ?_⟩
  rw [e1, e2]
  exact R

theorem rel_none (hdl : gk + done.length = n) (hgk : 0 < gk) (hT : T v = false) (hKv : K v = []) (R : RInv w0 w2 B d n K T (done ++ [v]) (st ++ nxt K T v) (.slice ao (done.filter T).length cp) (.slice (some ⟨g, 0, none⟩) st.length cs)) :
    RRel w0 B d n K T (gk - 1) (.slice ao (done.filter T).length cp) (.slice (some ⟨g, 0, none⟩) st.length cs) w2 := by
  have e1 : ((done ++ [v]).filter T).length = (done.filter T).length := by simp [List.filter_append, hT]
  have e2 : (st ++ nxt K T v).length = st.length := by simp [nxt, hT, hKv]
  refine ⟨done ++ [v], st ++ nxt K T v, ao, cp, g, cs, by simp; omega, by rw [e1], by rw [e2], ?_⟩
  rw [e1, e2]
  exact R
end

/-- The members, sorted. -/
theorem sort_members {w0 wr : World} {B d n cp : Nat} {K : Nat → List Nat} {T : Nat → Bool} {done : List Nat} {ao : Option Addr} {sv : Value} (hB : B ≤ wr.heap.size) (hn : n ≤ 65536)
    (R : RInv w0 wr B d n K T done [] (.slice ao (done.filter T).length cp) sv) :
    Calls Try.prog 32 #[.slice ao (done.filter T).length cp] wr fun e w' =>
      e = .returned (.tuple #[]) ∧ IntsAt w' B (.slice ao (done.filter T).length cp) (readL d n K T) ∧ Below B wr w' := by
  have hperm := done_perm R.inv
  by_cases h0 : done.filter T = []
  · have hv := R.nil h0
    rw [hv]
    refine (sort_none none 0 wr).mono fun e w' ⟨he, hw⟩ => ?_
    subst hw
    refine ⟨he, .inl ⟨?_, rfl⟩, Below.refl _ _⟩
    rw [h0] at hperm
    exact hperm.symm.eq_nil
  · have hlen : (readL d n K T).length = (done.filter T).length := hperm.symm.length_eq
    have hpos : 0 < (done.filter T).length := List.length_pos_iff.2 h0
    have hle : (done.filter T).length ≤ n := Nat.le_trans (List.length_filter_le _ _) (by have := inv_length R.inv; omega)
    have hmem := R.mem
    rcases hmem.2 with ⟨_, h'⟩ | ⟨g, cap', cur, hv, hbg, hg, h1, h2, h3, h4⟩
    · omega
    · simp only [Value.slice.injEq, true_and] at hv
      obtain ⟨rfl, rfl⟩ := hv
      have hl : ((done.filter T).map fun x : Nat => (x : Int)).length = (done.filter T).length := by simp
      have hH := Go.holds_of_blockI (ss := (done.filter T).map fun x : Nat => (x : Int)) hg (by
        have h4' := h4
        rw [Nat.mul_one] at h4'
        rw [hl, h4']
        simp [intsV])
      have hc := sort_any g 0 cp ((done.filter T).map fun x : Nat => (x : Int)) wr hH (Array.getElem?_eq_some_iff.1 hg).1 (by rw [hl]; omega)
      rw [hl] at hc
      refine hc.mono fun e w' ⟨he, q, os, hw⟩ => ?_
      rw [sort_done R.inv] at hw
      have hown := Go.ownsRow_sortedI (w := wr) (base := B) (g := g) (cap := cp) (n := q) (e := 3) (os := os) (cur := cur) (ss := (done.filter T).map fun x : Nat => (x : Int)) (ts := (readL d n K T).map fun x : Nat => (x : Int)) (by simp [hlen]) hbg hg (by rw [hl]; exact h1) h2 h3
      rw [← hw, hl] at hown
      have hgr := Go.grownBy_sortedI (w := wr) (g := g) (n := q) (os := os) ((readL d n K T).map fun x : Nat => (x : Int)).toArray
      rw [← hw] at hgr
      have hown' : w'.ownsRow B 3 1 (.slice (some ⟨g, 0, none⟩) (done.filter T).length cp) (done.filter T).length ((readL d n K T).map fun x : Nat => Value.int .i64 x) := by
        rw [List.map_map] at hown; exact hown
      obtain ⟨k1, k2, _, k4⟩ := own_cells hown'
      refine ⟨he, .inr ⟨?_, g, cp, by rw [hlen], k1, k2, k4⟩, (Below.refl B wr).grown hgr hB (fun k hk => by cases hk; exact hbg)⟩
      intro e0
      rw [e0] at hlen
      simp at hlen
      omega

set_option maxRecDepth 100000 in
set_option maxHeartbeats 2000000 in
theorem read_any (d n home lg tg hg : Nat) (lv h : Nat → Bool) (w : World) (A : RArgs w d n home lg tg hg lv h) :
    Calls Try.prog 29 #[pkr d n (.slice (some ⟨lg, 0, none⟩) n n) home (.slice (some ⟨tg, 0, none⟩) n n), .slice (some ⟨hg, 0, none⟩) n n] w fun e w' =>
      ∃ u, e = .returned u ∧ IntsAt w' w.heap.size u (readL d n (KK d n home h) (TT d n home lv h)) ∧ Below w.heap.size w w' := by
  have hhn := A.hh
  have hn := A.hn
  have hK := kids_kids (h := h) A.hd A.hh
  obtain ⟨T, hTe⟩ : ∃ T, T = TT d n home lv h := ⟨_, rfl⟩
  have HT : Hid (T = TT d n home lv h) := hTe
  clear hTe
  obtain ⟨K, hKe⟩ : ∃ K, K = KK d n home h := ⟨_, rfl⟩
  have HK : Hid (K = KK d n home h) := hKe
  rw [← hKe] at hK
  clear hKe
  obtain ⟨i0, hi, hz0, hz1, hz2⟩ := info_parts Try.info3
  go_enter Try.func29, Try.ntmps29
  go_wp2
  go_loopg [5, 6] n (fun k mv sv wr => ∃ (done stack : List Nat) (ao : Option Addr) (cp g cs : Nat), k + done.length = n ∧ mv = .slice ao (done.filter T).length cp ∧ sv = .slice (some ⟨g, 0, none⟩) stack.length cs ∧ RInv (w.alloc (boxP d n lg home tg)) wr (w.heap.size + 1) d n K T done stack (.slice ao (done.filter T).length cp) (.slice (some ⟨g, 0, none⟩) stack.length cs))
  case atStart => exact ⟨[], [0], none, 0, w.heap.size + 1, 1, by simp, rfl, rfl, rinv_start w d n _ _ _ (by omega)⟩
  case round =>
    obtain ⟨done, stack, ao, cp, g, cs, hdl, rfl, rfl, R⟩ := hrel
    have hlen := inv_length R.inv
    have Al := A.later (below_box R.below)
    obtain ⟨c0, c1, c2, c3, c4, c5, c6⟩ := box_cells R.below
    rcases List.eq_nil_or_concat stack with rfl | ⟨st, v, rfl⟩
    · have hsz : w.heap.size + 1 ≤ wr.heap.size := by have := R.below.size; simpa using this
      have HS := (⟨sort_members hsz hn R⟩ : PLift _)
      have HB := (⟨below_box R.below⟩ : PLift (Below w.heap.size w wr))
      clear R Al c0 c1 c2 c3 c4 c5 c6
      go_wp2_with fail
      refine HS.down.mono ?_
      rintro e w2 ⟨rfl, hI, hb2⟩
      rw [HK.out, HT.out] at hI
      go_wp2
      go_ret
      exact ⟨_, rfl, by rw [HT.out]; exact hI.mono (by omega), HB.down.trans (hb2.mono (by omega))⟩
    · rw [List.concat_eq_append] at R hlen ⊢
      have hvn : v < n := R.inv.lt v (by simp)
      have htop := top_cell R.stk
      have hcap := own_cap R.stk
      have hl2 : (st ++ [v]).length = st.length + 1 := by simp
      rw [hl2] at hlen hcap
      unfold maxLen at hcap
      have hd := A.hd
      have hd2 := A.hd2
      have HR := (⟨R⟩ : PLift _)
      have HA := (⟨Al⟩ : PLift _)
      clear R Al
      go_wp2_with fail
      refine (kids_any d n home v (some ⟨lg, 0, none⟩) n n tg hg h wr hd hd2 hn hvn hhn HA.down.tgl HA.down.hgl (HA.down.ct v hvn) HA.down.ch).mono ?_
      rintro e w1 ⟨u, rfl, hI0, hb1⟩
      have hI : IsInts w1 wr.heap.size u (K v) := by rw [HK.out]; exact hI0
      have A1 := HA.down.later hb1
      have hbw : w.heap.size < wr.heap.size := by have := HR.down.below.size; simp at this; omega
      have d2 : w1.cell? ⟨w.heap.size, 2, none⟩ = some (.slice (some ⟨lg, 0, none⟩) n n) := (hb1.cell (p := ⟨w.heap.size, 2, none⟩) hbw).trans c2
      have d6 : w1.cell? ⟨w.heap.size, 6, none⟩ = some (.slice (some ⟨tg, 0, none⟩) n n) := (hb1.cell (p := ⟨w.heap.size, 6, none⟩) hbw).trans c6
      have dl := A1.cl v hvn
      have dt := A1.ct v hvn
      have hkl : (K v).length ≤ 65536 := by rw [HK.out]; exact kidsL_len hd hhn hn
      have hbase : w.heap.size + 1 ≤ w1.heap.size := by have := hb1.size; omega
      have hTv : T v = (lv v && !hasB (K v) (twd d home v)) := by rw [HT.out, HK.out]; rfl
      have hml : (done.filter T).length ≤ done.length := List.length_filter_le _ _
      have hmem1 := ownsRow_below HR.down.mem hb1
      have hstk1 := ownsRow_below (popped HR.down.stk) hb1
      have HI := (⟨hI.at⟩ : PLift (IntsAt w1 wr.heap.size u (K v)))
      have hB0 : w.heap.size + 1 ≤ (w.alloc (boxP d n lg home tg)).heap.size := by simp
      have hgk : 0 < gk := by omega
      clear A1 hbw c0 c1 c2 c3 c4 c5 c6 htop hcap hl2 HA hI0
      by_cases hlv : lv v = true
      · rw [hlv] at dl hTv
        by_cases hhas : hasB (K v) (twd d home v) = true
        · rw [hhas] at hTv
          have HTv : Hid (T v = false) := hTv.trans (by simp)
          have HH : Hid (hasB (K v) (twd d home v) = true) := hhas
          clear hTv hhas hlv hmem1
          rcases hI with ⟨hK0, _⟩ | ⟨hK0, gx, rfl, hgx, hrx⟩
          · exfalso
            have := HH.out
            rw [hK0] at this
            simp [hasB] at this
          · have hpos : 0 < (K v).length := List.length_pos_iff.2 hK0
            have hnews := news_of_row hrx
            have hone := ints_one (K v)
            clear hK0
            go_wp2_with (first | (go_at_call 31; refine (contains_any _ wr.heap.size (K v) (twd d home v) w1 hkl HI.down).mono ?_; rintro e w2 ⟨rfl, rfl⟩; rw [HH.out]) | (at_builtin; refine wpList_append_lies _ rfl _ _ 27 rfl (w.heap.size + 1) 3 i0 (.int .i64 0) 1 8 Try.underlying27 hi hz0 hz1 hz2 rfl (by omega) (.slice (some ⟨g, 0, none⟩) st.length cs) st.length _ rfl hstk1 ⟨gx, 0, none⟩ (K v).length (K v).length (intsV (K v)) rfl (by simp) hnews hone hpos (by unfold maxLen; omega) (by omega) hbase w1.heap.size rfl ?_; intro g' cs' w2 hown hgrow hat hlt1))
            have R2 := step_pushed hK hB0 HR.down HTv.out hb1 hgrow hown hat
            go_roundg (gk - 1)
            case measure => omega
            case rel => exact rel_pushed hdl hgk HTv.out R2
        · have hhas' : hasB (K v) (twd d home v) = false := by simpa using hhas
          rw [hhas'] at hTv
          have HTv : Hid (T v = true) := hTv.trans (by simp)
          have HH : Hid (hasB (K v) (twd d home v) = false) := hhas'
          clear hTv hhas hhas' hlv hI hstk1
          go_wp2_with (first | (go_at_call 31; refine (contains_any u wr.heap.size (K v) (twd d home v) w1 hkl HI.down).mono ?_; rintro e w2 ⟨rfl, rfl⟩; rw [HH.out]) | (at_builtin; refine wpList_append_lies _ rfl _ _ 27 rfl (w.heap.size + 1) 3 i0 (.int .i64 0) 1 8 Try.underlying27 hi hz0 hz1 hz2 rfl (by omega) (.slice ao (done.filter T).length cp) (done.filter T).length _ rfl (hmem1.alloc _) ⟨w1.heap.size, 0, none⟩ 1 1 [.int .i64 (v : Int)] rfl rfl (cell_one_new _ _ _) (by intro u hu; simp at hu; subst hu; rfl) (by omega) (by unfold maxLen; omega) (by omega) (by simp; omega) (w1.heap.size + 1) (by simp) ?_; intro g' cp' w2 hown hgrow hat hlt1))
          have R2 := step_taken hK hB0 HR.down HTv.out hb1 hgrow hown hat
          go_roundg (gk - 1)
          case measure => omega
          case rel => exact rel_taken hdl hgk HTv.out R2
      · have hlv' : lv v = false := by simpa using hlv
        rw [hlv'] at dl hTv
        have HTv : Hid (T v = false) := hTv.trans (by simp)
        clear hTv hlv hlv' hmem1
        rcases hI with ⟨hK0, rfl⟩ | ⟨hK0, gx, rfl, hgx, hrx⟩
        · have R2 := step_none hK hB0 HR.down HTv.out hK0 hb1
          go_wp2_with (at_builtin; refine wpList_append_own_none rfl _ _ 27 rfl (w.heap.size + 1) 3 i0 1 Try.underlying27 hi (.slice (some ⟨g, 0, none⟩) st.length cs) st.length _ rfl hstk1 rfl ?_)
          go_roundg (gk - 1)
          case measure => omega
          case rel => exact rel_none hdl hgk HTv.out hK0 R2
        · have hpos : 0 < (K v).length := List.length_pos_iff.2 hK0
          have hnews := news_of_row hrx
          have hone := ints_one (K v)
          clear hK0
          go_wp2_with (at_builtin; refine wpList_append_lies _ rfl _ _ 27 rfl (w.heap.size + 1) 3 i0 (.int .i64 0) 1 8 Try.underlying27 hi hz0 hz1 hz2 rfl (by omega) (.slice (some ⟨g, 0, none⟩) st.length cs) st.length _ rfl hstk1 ⟨gx, 0, none⟩ (K v).length (K v).length (intsV (K v)) rfl (by simp) hnews hone hpos (by unfold maxLen; omega) (by omega) hbase w1.heap.size rfl ?_; intro g' cs' w2 hown hgrow hat hlt1)
          have R2 := step_pushed hK hB0 HR.down HTv.out hb1 hgrow hown hat
          go_roundg (gk - 1)
          case measure => omega
          case rel => exact rel_pushed hdl hgk HTv.out R2
end Go.Proofs.Qxb6600850a
