/-
  FnAuthOptionsDeepCopyIntoSelf: the walk.
-/
import Derived.Test.Qxb6602433aModsBytes
import Derived.Test.Qxb6602433aModsCloneB
import Derived.Test.Qxb6602433aModsCloneS
import Derived.Test.Qxb6602433aModsVals
import Derived.Deep.RegionWith
namespace Go.Proofs.Qxb6602433aMods.Auth
open Go.RowKit

theorem cloneBools_one (p0 : Option Addr) (w : World) (h0 : PA isB w p0) :
    Calls Trym.prog 21 #[.agg #[.pointer p0, .pointer none]] w fun e w' => ∃ q0 q1, e = .returned (.agg #[.pointer q0, .pointer q1]) ∧ PT isB w' q0 ∧ PT isB w' q1 ∧ Below w.heap.size w w' :=
  cloneBools_any (fun i => if i = 0 then p0 else none) w (fun i _ => by
    by_cases e : i = 0
    · simp only [e, if_true]; exact h0
    · simp only [e, if_false]; exact .inl rfl)

theorem cloneStrs_one (p0 : Option Addr) (w : World) (h0 : PA isS w p0) :
    Calls Trym.prog 22 #[.agg #[.pointer p0, .pointer none, .pointer none, .pointer none]] w fun e w' => ∃ q0 q1 q2 q3, e = .returned (.agg #[.pointer q0, .pointer q1, .pointer q2, .pointer q3]) ∧ PT isS w' q0 ∧ PT isS w' q1 ∧ PT isS w' q2 ∧ PT isS w' q3 ∧ Below w.heap.size w w' :=
  cloneStrs_any (fun i => if i = 0 then p0 else none) w (fun i _ => by
    by_cases e : i = 0
    · simp only [e, if_true]; exact h0
    · simp only [e, if_false]; exact .inl rfl)

set_option maxRecDepth 100000 in
set_option maxHeartbeats 400000 in
theorem self_c1 (p0 s0 : Option Addr) (m : ByteArray) (w : World) (g0 : PS w s0)
     (c1 : (1048576 : Int) < (m.size : Int)) :
    Calls Trym.prog 6 #[.pointer p0, .pointer s0, .string m] w fun e w' => e = .returned (.bool true) ∧ Below w.heap.size w w' := by
  go_enter Trym.func6, Trym.ntmps6
  go_wp2_with (first
      | (go_at_call 32; refine (bytesSelf_any _ _ _ _ g0).mono ?_; rintro e w' ⟨r, rfl, rfl⟩)
      | (go_at_call 20; refine (lenStr_any _ _ g0).mono ?_; rintro e w' ⟨rfl, rfl⟩))
  all_goals (go_ret; exact ⟨rfl, Below.refl _ _⟩)

set_option maxRecDepth 100000 in
set_option maxHeartbeats 400000 in
theorem self_c2 (p0 s0 : Option Addr) (m : ByteArray) (w : World) (g0 : PS w s0)
    (c1 : ¬ (1048576 : Int) < (m.size : Int)) (c2 : (1048576 : Int) < ((sv w s0).size : Int)) :
    Calls Trym.prog 6 #[.pointer p0, .pointer s0, .string m] w fun e w' => e = .returned (.bool true) ∧ Below w.heap.size w w' := by
  go_enter Trym.func6, Trym.ntmps6
  go_wp2_with (first
      | (go_at_call 32; refine (bytesSelf_any _ _ _ _ g0).mono ?_; rintro e w' ⟨r, rfl, rfl⟩)
      | (go_at_call 20; refine (lenStr_any _ _ g0).mono ?_; rintro e w' ⟨rfl, rfl⟩))
  all_goals (go_ret; exact ⟨rfl, Below.refl _ _⟩)

set_option maxRecDepth 100000 in
set_option maxHeartbeats 400000 in
theorem self_c3 (p0 s0 : Option Addr) (m : ByteArray) (w : World) (g0 : PS w s0)
    (c1 : ¬ (1048576 : Int) < (m.size : Int)) (c2 : ¬ (1048576 : Int) < ((sv w s0).size : Int)) (c3 : (1048576 : Int) < (m.size : Int) + ((sv w s0).size : Int)) :
    Calls Trym.prog 6 #[.pointer p0, .pointer s0, .string m] w fun e w' => e = .returned (.bool true) ∧ Below w.heap.size w w' := by
  go_enter Trym.func6, Trym.ntmps6
  go_wp2_with (first
      | (go_at_call 32; refine (bytesSelf_any _ _ _ _ g0).mono ?_; rintro e w' ⟨r, rfl, rfl⟩)
      | (go_at_call 20; refine (lenStr_any _ _ g0).mono ?_; rintro e w' ⟨rfl, rfl⟩))
  all_goals (go_ret; exact ⟨rfl, Below.refl _ _⟩)

set_option maxRecDepth 100000 in
set_option maxHeartbeats 1000000 in
theorem self_long (p0 s0 : Option Addr) (m : ByteArray) (w : World) (h0 : PA isB w p0) (k0 : PA isS w s0) (g0 : PS w s0)
    (c1 : ¬ (1048576 : Int) < (m.size : Int)) (c2 : ¬ (1048576 : Int) < ((sv w s0).size : Int)) (c3 : ¬ (1048576 : Int) < (m.size : Int) + ((sv w s0).size : Int)) :
    Calls Trym.prog 6 #[.pointer p0, .pointer s0, .string m] w fun e w' => e = .returned (.bool true) ∧ Below w.heap.size w w' := by
  go_enter Trym.func6, Trym.ntmps6
  go_wp2_with (first
      | (go_at_call 32; refine (bytesSelf_any _ _ _ _ g0).mono ?_; rintro e w' ⟨r, rfl, rfl⟩)
      | (go_at_call 20; refine (lenStr_any _ _ g0).mono ?_; rintro e w' ⟨rfl, rfl⟩)
      | (go_at_call 21; refine (cloneBools_one _ _ h0).mono ?_; rintro e w1 ⟨q0, q1, rfl, hq0, hq1, hb1⟩))
  · go_ret
    exact ⟨rfl, Below.refl _ _⟩
  · clear c1 c2 c3 g0
    have B1 := hb1.alloc hb1.size (.cells #[.pointer q0, .pointer q1] 40)
    refine (cloneStrs_one _ _ (k0.below B1)).mono ?_
    rintro e w2 ⟨r0, r1, r2, r3, rfl, hr0, hr1, -, -, hb2⟩
    obtain ⟨x0, a0⟩ := (((hq0.alloc _).below hb2).alloc (.cells #[.pointer r0, .pointer r1, .pointer r2, .pointer r3] 42)).atB
    obtain ⟨y0, e0⟩ := (hr0.alloc (.cells #[.pointer r0, .pointer r1, .pointer r2, .pointer r3] 42)).atS
    have B2 := (B1.trans (hb2.mono B1.size)).alloc (Nat.le_trans B1.size hb2.size) (.cells #[.pointer r0, .pointer r1, .pointer r2, .pointer r3] 42)
    clear h0 k0 hq0 hq1 hr0 hr1 hb1 hb2 B1
    go_wp2_with (first
      | (go_at_call 23; refine (valBool_at q0 x0 _ a0).mono ?_; rintro e w' ⟨rfl, rfl⟩)
      | (go_at_call 24; refine (valStr_at r0 y0 _ e0).mono ?_; rintro e w' ⟨rfl, rfl⟩))
    refine (self_at q0 r0 m _ _ (by simp)).mono ?_
    rintro e w3 ⟨rfl, p', s', D⟩
    have D0 := D.b0
    have D1 := D.b1
    have D2 := D.b2
    have CB := D.cp.copied
    have CS := D.cs.copied
    have FB := D.cp.fresh (by simp) D.below a0 (at_nil _)
    have FS := D.cs.fresh4 (by simp) D.below e0 (at_nil _)
    have K0 := a0.below D.below
    have L0 := e0.below D.below
    have B3 := B2.trans (D.below.mono B2.size)
    clear D a0 e0 B2
    go_wp2_with (first
      | (go_at_call 33; refine (zeroedBool_any p' q0 _ CB).mono ?_; rintro e w' ⟨rfl, rfl⟩)
      | (go_at_call 34; refine (zeroedStr_any s' r0 _ CS).mono ?_; rintro e w' ⟨rfl, rfl⟩)
      | (go_at_call 28; refine (freshBool_any p' q0 none _ FB).mono ?_; rintro e w' ⟨rfl, rfl⟩)
      | (go_at_call 29; refine (freshStr_any s' r0 none none none _ FS).mono ?_; rintro e w' ⟨rfl, rfl⟩)
      | (go_at_call 30; refine (keptBool_at q0 x0 _ K0).mono ?_; rintro e w' ⟨rfl, rfl⟩)
      | (go_at_call 31; refine (keptStr_at r0 y0 _ L0).mono ?_; rintro e w' ⟨rfl, rfl⟩))
    go_ret
    exact ⟨rfl, B3⟩

theorem self_walk (p0 s0 : Option Addr) (m : ByteArray) (w : World) (h0 : PA isB w p0) (k0 : PA isS w s0) :
    Calls Trym.prog 6 #[.pointer p0, .pointer s0, .string m] w fun e w' => e = .returned (.bool true) ∧ Below w.heap.size w w' := by
  have g0 := k0.pt.psx
  by_cases c1 : (1048576 : Int) < (m.size : Int)
  · exact self_c1 p0 s0 m w g0 c1
  by_cases c2 : (1048576 : Int) < ((sv w s0).size : Int)
  · exact self_c2 p0 s0 m w g0 c1 c2
  by_cases c3 : (1048576 : Int) < (m.size : Int) + ((sv w s0).size : Int)
  · exact self_c3 p0 s0 m w g0 c1 c2 c3
  · exact self_long p0 s0 m w h0 k0 g0 c1 c2 c3

end Go.Proofs.Qxb6602433aMods.Auth
