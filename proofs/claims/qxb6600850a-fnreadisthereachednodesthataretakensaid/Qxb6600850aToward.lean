/- (Tree).toward (function 27), ZZToward (14). -/
import Derived.Test.Qxb6600850aClone
import Derived.Test.Qxb6600850aWay
namespace Go.Proofs.Qxb6600850a
open Go.RowKit

/-- The state of the array 'toward' in its second loop. -/
def TwAt (d home k j : Nat) : Int := if j < k then -1 else twd d home j

theorem twAt_start (d home j : Nat) : TwAt d home home j = -1 := by
  unfold TwAt
  split
  · rfl
  · exact twd_ge d home j (by omega)

theorem twAt_step {d home k p : Nat} (hk : 0 < k) (hp : (k - 1) / d = p) (hs : ∀ v, v < k → twd d home v = twd d k v) :
    (∀ j, (if j = p then (k : Int) else TwAt d home k j) = TwAt d home p j) ∧ ∀ v, v < p → twd d home v = twd d p v := by
  have hlt : p < k := hp ▸ par_lt hk
  constructor
  · intro j
    unfold TwAt
    by_cases e : j = p
    · subst e
      rw [if_pos rfl, if_neg (by omega), hs j hlt, twd_step d k j hk, if_pos hp]
    · rw [if_neg e]
      by_cases h1 : j < p
      · rw [if_pos (by omega), if_pos h1]
      · rw [if_neg h1]
        by_cases h2 : j < k
        · rw [if_pos h2, hs j h2, twd_step d k j hk, if_neg (by omega), hp, twd_ge d p j (by omega)]
        · rw [if_neg h2]
  · intro v hv
    rw [hs v (by omega), twd_step d k v hk, if_neg (by omega), hp]

theorem fill_step {w : World} {g n k : Nat} (hr : w.rowIs g 3 n (fun j => .int .i64 (if j < k then -1 else 0))) :
    (w.setCell ⟨g, k, none⟩ (.int .i64 (-1))).rowIs g 3 n (fun j => .int .i64 (if j < k + 1 then -1 else 0)) :=
  (hr.set k _).congr fun i hi => by
    by_cases e : i = k
    · subst e; simp
    · have : (i < k + 1) = (i < k) := by apply propext; omega
      simp [e, this]

theorem tw_store {w : World} {g n k p d home : Nat} (hr : w.rowIs g 3 n (fun j => .int .i64 (TwAt d home k j))) (hk : 0 < k) (hp : (k - 1) / d = p) (hs : ∀ v, v < k → twd d home v = twd d k v) :
    (w.setCell ⟨g, p, none⟩ (.int .i64 k)).rowIs g 3 n (fun j => .int .i64 (TwAt d home p j)) :=
  (hr.set p _).congr fun i _ => by
    have := (twAt_step hk hp hs).1 i
    rw [← this]
    split <;> rfl

theorem tw_made (w : World) (n g : Nat) (hg : w.heap.size = g) : (w.alloc (.cells (madeCells #[.int .i64 0] n) 3)).rowIs g 3 n (fun j => .int .i64 (if j < 0 then -1 else 0)) :=
  hg ▸ (World.rowIs_made w (.int .i64 0) n 3).congr fun i _ => by simp

/-- A new block, then 'Below' from it on: 'Below' from the call's start on. -/
theorem below_box {w wr : World} {o : Obj} (h : Below (w.heap.size + 1) (w.alloc o) wr) : Below w.heap.size w wr :=
  ((Below.refl w.heap.size w).alloc (Nat.le_refl _) o).trans (h.mono (by omega))

set_option maxHeartbeats 400000 in
theorem toward_any (d n home : Nat) (w : World) (hd : 1 ≤ d) (hd2 : d ≤ 9223372036854775807) (hh : home < n) (hn : n ≤ 65536) :
    Calls Try.prog 27 #[.agg #[.int .i64 d, .int .i64 n], .int .i64 home] w fun e w' =>
      ∃ g, e = .returned (.slice (some ⟨g, 0, none⟩) n n) ∧ w.heap.size ≤ g ∧ w'.rowIs g 3 n (fun i => .int .i64 (twd d home i)) ∧ Below w.heap.size w w' := by
  have hmk := run_make_row' (P := Try.prog) 27 3 (.int .i64 0) 8 Try.underlying27 Try.info3 rfl .i64 .i64 n (by omega) (by omega)
  go_enter Try.func27, Try.ntmps27
  go_wp2
  go_loopw [14] (fun i wr => ∃ k : Nat, k ≤ n ∧ i = .int .i64 k ∧ wr.rowIs (w.heap.size + 1) 3 n (fun j => .int .i64 (if j < k then -1 else 0)) ∧ Below (w.heap.size + 1) (w.alloc (.cells #[.int .i64 d, .int .i64 n] 42)) wr) (fun i _ => n - (intOf i).toNat)
  case atStart => exact ⟨0, Nat.zero_le _, rfl, tw_made _ n _ (by simp), (Below.refl _ _).alloc (by simp) _⟩
  case round =>
    obtain ⟨k, hk, rfl, hrow, hbel⟩ := hrel
    by_cases hlt : k < n
    · have hcg := hrow.cell hlt
      have hfg := hrow.frozen k
      have R := fill_step hrow
      have B := hbel.setCell (p := ⟨w.heap.size + 1, k, none⟩) (Nat.le_refl _) (.int .i64 (-1))
      clear hrow hbel
      go_wp2
      go_roundw
      case rel => exact ⟨k + 1, by omega, by go_num, R, B⟩
      case measure => simp [intOf]; omega
    · have hrow2 : wr.rowIs (w.heap.size + 1) 3 n (fun j => .int .i64 (TwAt d home home j)) := hrow.congr fun i hi => by rw [twAt_start, if_pos (by omega)]
      clear hrow
      go_wp2
      go_loopw [7] (fun c wr => ∃ k : Nat, k ≤ home ∧ c = .int .i64 k ∧ wr.rowIs (w.heap.size + 1) 3 n (fun j => .int .i64 (TwAt d home k j)) ∧ Hid (∀ v, v < k → twd d home v = twd d k v) ∧ Below (w.heap.size + 1) (w.alloc (.cells #[.int .i64 d, .int .i64 n] 42)) wr) (fun c _ => (intOf c).toNat)
      case atStart => exact ⟨home, Nat.le_refl _, rfl, hrow2, fun _ _ => rfl, hbel⟩
      case round =>
        clear hrow2 hbel
        obtain ⟨k, hk, rfl, hrow, hs, hbel⟩ := hrel
        by_cases hlt : 0 < k
        · obtain ⟨p, hpe⟩ : ∃ p, (k - 1) / d = p := ⟨_, rfl⟩
          have hp : p < k := by rw [← hpe]; exact par_lt (by omega)
          have hi : ((k : Int) - 1) / (d : Int) = (p : Int) := by rw [← hpe]; exact par_int (by omega)
          have hcd : wr.cell? ⟨w.heap.size, 0, none⟩ = some (.int .i64 d) := (hbel.cell (p := ⟨w.heap.size, 0, none⟩) (by simp)).trans (by simp)
          have hcg := hrow.cell (i := p) (by omega)
          have hfg := hrow.frozen p
          have R := tw_store hrow hlt hpe hs.out
          have S : Hid (∀ v, v < p → twd d home v = twd d p v) := (twAt_step hlt hpe hs.out).2
          have B := hbel.setCell (p := ⟨w.heap.size + 1, p, none⟩) (Nat.le_refl _) (.int .i64 k)
          clear hrow hbel hs hpe
          go_wp2
          go_roundw
          case rel => exact ⟨p, by omega, by rw [hi], R, S, B⟩
          case measure => simp [intOf]; omega
        · obtain rfl : k = 0 := by omega
          go_wp2
          go_ret
          exact ⟨_, rfl, by omega, hrow.congr (fun i _ => by simp [TwAt]), below_box hbel⟩

set_option maxHeartbeats 400000 in
theorem zzToward_any (d n home : Nat) (w : World) (hd : 1 ≤ d) (hd2 : d ≤ 9223372036854775807) (hh : home < n) (hn : n ≤ 65536) :
    Calls Try.prog 14 #[.int .i64 d, .int .i64 n, .int .i64 home] w fun e w' =>
      ∃ g, e = .returned (.slice (some ⟨g, 0, none⟩) n n) ∧ w.heap.size ≤ g ∧ w'.rowIs g 3 n (fun i => .int .i64 (twd d home i)) ∧ Below w.heap.size w w' := by
  go_enter Try.func14, Try.ntmps14
  go_wp2_with (go_at_call 27; refine (toward_any d n home _ hd hd2 hh hn).mono ?_; rintro e w' ⟨g, rfl, h1, h2, h3⟩)
  go_ret
  exact ⟨_, rfl, h1, h2, h3⟩
end Go.Proofs.Qxb6600850a
