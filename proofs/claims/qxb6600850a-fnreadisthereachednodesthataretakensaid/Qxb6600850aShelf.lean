/- The shelf contract of slices.Sort at this program, laid in plain words (written by the tool lay-plain.mjs off a laying at this dump; each field a fact of the program, or a comparison by the kernel). -/
import Derived.Shelf.Sort.Plain
import Derived.Shelf.Slices.In.SortNone
import Derived.Test.Qxb6600850aProg
namespace Go.Proofs.Qxb6600850a
open Go.Shelf
def sortRen : Go.Shelf.Ren := ⟨fun | 189 => 32 | 125 => 35 | 257 => 34 | 128 => 45 | 129 => 46 | 294 => 36 | 295 => 37 | 296 => 38 | 297 => 39 | 298 => 40 | 299 => 41 | 216 => 42 | 300 => 43 | 301 => 44 | 328 => 47 | 329 => 48 | 330 => 49 | 331 => 50 | 332 => 51 | 215 => 52 | 343 => 53 | n => n, fun | 28 => 27 | 3 => 3 | 46 => 56 | 0 => 0 | 51 => 67 | 53 => 69 | 4 => 4 | 183 => 59 | 182 => 58 | 131 => 64 | 5 => 5 | 9 => 9 | 218 => 70 | 222 => 74 | 228 => 77 | 229 => 50 | n => n, fun | n => n⟩
theorem sortLaid : Go.Proofs.Lays.n189 Try.prog sortRen := {
  mixed := by kernel_rfl
  f125 := Try.func35.trans (congrArg some (by kernel_rfl))
  f128 := Try.func45.trans (congrArg some (by kernel_rfl))
  f129 := Try.func46.trans (congrArg some (by kernel_rfl))
  f189 := Try.func32.trans (congrArg some (by kernel_rfl))
  f215 := Try.func52.trans (congrArg some (by kernel_rfl))
  f216 := Try.func42.trans (congrArg some (by kernel_rfl))
  f257 := Try.func34.trans (congrArg some (by kernel_rfl))
  f294 := Try.func36.trans (congrArg some (by kernel_rfl))
  f295 := Try.func37.trans (congrArg some (by kernel_rfl))
  f296 := Try.func38.trans (congrArg some (by kernel_rfl))
  f297 := Try.func39.trans (congrArg some (by kernel_rfl))
  f298 := Try.func40.trans (congrArg some (by kernel_rfl))
  f299 := Try.func41.trans (congrArg some (by kernel_rfl))
  f300 := Try.func43.trans (congrArg some (by kernel_rfl))
  f301 := Try.func44.trans (congrArg some (by kernel_rfl))
  f328 := Try.func47.trans (congrArg some (by kernel_rfl))
  f329 := Try.func48.trans (congrArg some (by kernel_rfl))
  f330 := Try.func49.trans (congrArg some (by kernel_rfl))
  f331 := Try.func50.trans (congrArg some (by kernel_rfl))
  f332 := Try.func51.trans (congrArg some (by kernel_rfl))
  f343 := Try.func53.trans (congrArg some (by kernel_rfl))
  t0 := Try.underlying0
  a0 := Try.isAgg0
  z0 := Try.sizeOf0
  v0 := Try.zeroValue0
  t3 := Try.underlying3
  a3 := Try.isAgg3
  z3 := Try.sizeOf3
  v3 := Try.zeroValue3
  t4 := Try.underlying4
  a4 := Try.isAgg4
  z4 := Try.sizeOf4
  v4 := Try.zeroValue4
  t5 := Try.underlying5
  a5 := Try.isAgg5
  z5 := Try.sizeOf5
  v5 := Try.zeroValue5
  t9 := Try.underlying9
  a9 := Try.isAgg9
  z9 := Try.sizeOf9
  v9 := Try.zeroValue9
  t28 := Try.underlying27
  a28 := Try.isAgg27
  z28 := Try.sizeOf27
  v28 := Try.zeroValue27
  t46 := Try.underlying56
  a46 := Try.isAgg56
  z46 := Try.sizeOf56
  v46 := Try.zeroValue56
  t51 := Try.underlying67
  a51 := Try.isAgg67
  z51 := Try.sizeOf67
  v51 := Try.zeroValue67
  t53 := Try.underlying69
  a53 := Try.isAgg69
  z53 := Try.sizeOf69
  v53 := Try.zeroValue69
  t131 := Try.underlying64
  a131 := Try.isAgg64
  z131 := Try.sizeOf64
  v131 := Try.zeroValue64
  t182 := Try.underlying58
  a182 := Try.isAgg58
  z182 := Try.sizeOf58
  v182 := Try.zeroValue58
  t183 := Try.underlying59
  a183 := Try.isAgg59
  z183 := Try.sizeOf59
  v183 := Try.zeroValue59
  t218 := Try.underlying70
  a218 := Try.isAgg70
  z218 := Try.sizeOf70
  v218 := Try.zeroValue70
  t222 := Try.underlying74
  a222 := Try.isAgg74
  z222 := Try.sizeOf74
  v222 := Try.zeroValue74
  t228 := Try.underlying77
  a228 := Try.isAgg77
  z228 := Try.sizeOf77
  v228 := Try.zeroValue77
  t229 := Try.underlying50
  a229 := Try.isAgg50
  z229 := Try.sizeOf50
  v229 := Try.zeroValue50 }

/-- slices.Sort at a slice of ints: what it holds behind the call is the sorted list. -/
theorem sort_any (blk off cap : Nat) (zs : List Int) (w : World) (hH : Go.Sort.Holds (Value.int .i64) w blk off zs.toArray) (hblk : blk < w.heap.size) (hsz : zs.length < 4611686018427387904) :
    Calls Try.prog 32 #[.slice (some ⟨blk, off, none⟩) zs.length cap] w fun e w' =>
      e = .returned (.tuple #[]) ∧ ∃ n os, w' = Go.Sort.grow (Go.Sort.putRow (Value.int .i64) (Go.Sort.ahead w n) blk off (zs.mergeSort fun x y => decide (x ≤ y)).toArray) os :=
  Any.slices_Sort_int sortLaid blk off cap zs w hH hblk hsz

/-- At no element. -/
theorem sort_none (p : Option Addr) (cap : Nat) (w : World) : Calls Try.prog 32 #[.slice p 0 cap] w fun e w' => e = .returned (.tuple #[]) ∧ w' = w :=
  Any.slices_Sort_int_none sortLaid p cap w
end Go.Proofs.Qxb6600850a
