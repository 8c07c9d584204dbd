/-
  (*AuthOptions).DeepCopyInto, from one new struct into another: what stands in memory behind it, way by way.
-/
import Derived.Test.Qxb6602433aModsCInv
import Derived.RegionTactic
namespace Go.Proofs.Qxb6602433aMods.Auth
open Go.RowKit

set_option maxHeartbeats 400000 in
theorem deep_nil_nil (q' s' : Option Addr) (m m' : ByteArray) (w : World) :
    Calls Trym.prog 25 #[.pointer (some ⟨w.heap.size, 0, none⟩), .pointer (some ⟨w.heap.size + 1, 0, none⟩)]
      ((w.alloc (.cells #[.pointer none, .pointer none, .string m] 48)).alloc (.cells #[.pointer q', .pointer s', .string m'] 48)) fun e w' => e = .returned (.tuple #[]) ∧
      w' = (w.alloc (.cells #[.pointer none, .pointer none, .string m] 48)).alloc (.cells #[.pointer none, .pointer none, .string m] 48) := by
  go_enter Trym.func25, Trym.ntmps25
  go_wp2
  go_end0
  exact ⟨rfl, rfl⟩

set_option maxHeartbeats 400000 in
theorem deep_some_nil (xb xo : Nat) (x : Bool) (q' s' : Option Addr) (m m' : ByteArray) (w : World) (hx : w.cell? ⟨xb, xo, none⟩ = some (.bool x)) :
    Calls Trym.prog 25 #[.pointer (some ⟨w.heap.size, 0, none⟩), .pointer (some ⟨w.heap.size + 1, 0, none⟩)]
      ((w.alloc (.cells #[.pointer (some ⟨xb, xo, none⟩), .pointer none, .string m] 48)).alloc (.cells #[.pointer q', .pointer s', .string m'] 48)) fun e w' => e = .returned (.tuple #[]) ∧
      w' = (((w.alloc (.cells #[.pointer (some ⟨xb, xo, none⟩), .pointer none, .string m] 48)).alloc (.cells #[.pointer (some ⟨w.heap.size + 1 + 1, 0, none⟩), .pointer none, .string m] 48)).alloc (.cells #[.bool x] 4)).drew.drew := by
  have lx : xb < w.heap.size := cell_lt hx
  have lx1 : xb < w.heap.size + 1 := by omega
  have lx2 : xb < w.heap.size + 1 + 1 := by omega
  have lx3 : xb < w.heap.size + 1 + 1 + 1 := by omega
  go_enter Trym.func25, Trym.ntmps25
  go_wp2
  go_region
  go_wp2
  go_region
  go_wp2
  go_end0
  exact ⟨rfl, rfl⟩

set_option maxHeartbeats 400000 in
theorem deep_nil_some (yb yo : Nat) (y : ByteArray) (q' s' : Option Addr) (m m' : ByteArray) (w : World) (hy : w.cell? ⟨yb, yo, none⟩ = some (.string y)) :
    Calls Trym.prog 25 #[.pointer (some ⟨w.heap.size, 0, none⟩), .pointer (some ⟨w.heap.size + 1, 0, none⟩)]
      ((w.alloc (.cells #[.pointer none, .pointer (some ⟨yb, yo, none⟩), .string m] 48)).alloc (.cells #[.pointer q', .pointer s', .string m'] 48)) fun e w' => e = .returned (.tuple #[]) ∧
      w' = (((w.alloc (.cells #[.pointer none, .pointer (some ⟨yb, yo, none⟩), .string m] 48)).alloc (.cells #[.pointer none, .pointer (some ⟨w.heap.size + 1 + 1, 0, none⟩), .string m] 48)).alloc (.cells #[.string y] 9)).drew.drew := by
  have ly : yb < w.heap.size := cell_lt hy
  have ly1 : yb < w.heap.size + 1 := by omega
  have ly2 : yb < w.heap.size + 1 + 1 := by omega
  have ly3 : yb < w.heap.size + 1 + 1 + 1 := by omega
  go_enter Trym.func25, Trym.ntmps25
  go_wp2
  go_region
  go_wp2
  go_region
  go_wp2
  go_end0
  exact ⟨rfl, rfl⟩

set_option maxHeartbeats 400000 in
theorem deep_some_some (xb xo yb yo : Nat) (x : Bool) (y : ByteArray) (q' s' : Option Addr) (m m' : ByteArray) (w : World) (hx : w.cell? ⟨xb, xo, none⟩ = some (.bool x)) (hy : w.cell? ⟨yb, yo, none⟩ = some (.string y)) :
    Calls Trym.prog 25 #[.pointer (some ⟨w.heap.size, 0, none⟩), .pointer (some ⟨w.heap.size + 1, 0, none⟩)]
      ((w.alloc (.cells #[.pointer (some ⟨xb, xo, none⟩), .pointer (some ⟨yb, yo, none⟩), .string m] 48)).alloc (.cells #[.pointer q', .pointer s', .string m'] 48)) fun e w' => e = .returned (.tuple #[]) ∧
      w' = ((((w.alloc (.cells #[.pointer (some ⟨xb, xo, none⟩), .pointer (some ⟨yb, yo, none⟩), .string m] 48)).alloc (.cells #[.pointer (some ⟨w.heap.size + 1 + 1, 0, none⟩), .pointer (some ⟨w.heap.size + 1 + 1 + 1, 0, none⟩), .string m] 48)).alloc (.cells #[.bool x] 4)).alloc (.cells #[.string y] 9)).drew.drew.drew.drew := by
  have lx : xb < w.heap.size := cell_lt hx
  have lx1 : xb < w.heap.size + 1 := by omega
  have lx2 : xb < w.heap.size + 1 + 1 := by omega
  have lx3 : xb < w.heap.size + 1 + 1 + 1 := by omega
  have ly : yb < w.heap.size := cell_lt hy
  have ly1 : yb < w.heap.size + 1 := by omega
  have ly2 : yb < w.heap.size + 1 + 1 := by omega
  have ly3 : yb < w.heap.size + 1 + 1 + 1 := by omega
  go_enter Trym.func25, Trym.ntmps25
  go_wp2
  go_region
  go_wp2
  go_region
  go_wp2
  go_region
  go_wp2
  go_region
  go_wp2
  go_end0
  exact ⟨rfl, rfl⟩

/-! ### From one new struct into itself -/
set_option maxHeartbeats 400000 in
theorem self_nil_nil (m : ByteArray) (w : World) :
    Calls Trym.prog 25 #[.pointer (some ⟨w.heap.size, 0, none⟩), .pointer (some ⟨w.heap.size, 0, none⟩)]
      (w.alloc (.cells #[.pointer none, .pointer none, .string m] 48)) fun e w' => e = .returned (.tuple #[]) ∧
      w' = w.alloc (.cells #[.pointer none, .pointer none, .string m] 48) := by
  go_enter Trym.func25, Trym.ntmps25
  go_wp2
  go_end0
  exact ⟨rfl, rfl⟩

set_option maxHeartbeats 400000 in
theorem self_some_nil (xa : Addr) (m : ByteArray) (w : World) :
    Calls Trym.prog 25 #[.pointer (some ⟨w.heap.size, 0, none⟩), .pointer (some ⟨w.heap.size, 0, none⟩)]
      (w.alloc (.cells #[.pointer (some xa), .pointer none, .string m] 48)) fun e w' => e = .returned (.tuple #[]) ∧
      w' = ((w.alloc (.cells #[.pointer (some ⟨w.heap.size + 1, 0, none⟩), .pointer none, .string m] 48)).alloc (.cells #[.bool false] 4)).drew.drew := by
  go_enter Trym.func25, Trym.ntmps25
  go_wp2
  go_region
  go_wp2
  go_region
  go_wp2
  go_end0
  exact ⟨rfl, rfl⟩

set_option maxHeartbeats 400000 in
theorem self_nil_some (ya : Addr) (m : ByteArray) (w : World) :
    Calls Trym.prog 25 #[.pointer (some ⟨w.heap.size, 0, none⟩), .pointer (some ⟨w.heap.size, 0, none⟩)]
      (w.alloc (.cells #[.pointer none, .pointer (some ya), .string m] 48)) fun e w' => e = .returned (.tuple #[]) ∧
      w' = ((w.alloc (.cells #[.pointer none, .pointer (some ⟨w.heap.size + 1, 0, none⟩), .string m] 48)).alloc (.cells #[.string ByteArray.empty] 9)).drew.drew := by
  go_enter Trym.func25, Trym.ntmps25
  go_wp2
  go_region
  go_wp2
  go_region
  go_wp2
  go_end0
  exact ⟨rfl, rfl⟩

set_option maxHeartbeats 400000 in
theorem self_some_some (xa ya : Addr) (m : ByteArray) (w : World) :
    Calls Trym.prog 25 #[.pointer (some ⟨w.heap.size, 0, none⟩), .pointer (some ⟨w.heap.size, 0, none⟩)]
      (w.alloc (.cells #[.pointer (some xa), .pointer (some ya), .string m] 48)) fun e w' => e = .returned (.tuple #[]) ∧
      w' = (((w.alloc (.cells #[.pointer (some ⟨w.heap.size + 1, 0, none⟩), .pointer (some ⟨w.heap.size + 1 + 1, 0, none⟩), .string m] 48)).alloc (.cells #[.bool false] 4)).alloc (.cells #[.string ByteArray.empty] 9)).drew.drew.drew.drew := by
  go_enter Trym.func25, Trym.ntmps25
  go_wp2
  go_region
  go_wp2
  go_region
  go_wp2
  go_region
  go_wp2
  go_region
  go_wp2
  go_end0
  exact ⟨rfl, rfl⟩

end Go.Proofs.Qxb6602433aMods.Auth
