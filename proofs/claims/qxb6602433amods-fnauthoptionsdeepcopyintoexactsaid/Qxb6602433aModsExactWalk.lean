/-
  FnAuthOptionsDeepCopyIntoExact: the walk.
-/
import Derived.Test.Qxb6602433aModsExactShort
import Derived.Test.Qxb6602433aModsVals
import Derived.Deep.RegionWith
namespace Go.Proofs.Qxb6602433aMods.Auth
open Go.RowKit

set_option maxRecDepth 100000 in
set_option maxHeartbeats 1000000 in
theorem exact_long (p0 s0 p1 s1 : Option Addr) (m m' : ByteArray) (w : World) (h0 : PA isB w p0) (k0 : PA isS w s0) (h1 : PA isB w p1) (k1 : PA isS w s1) (g0 : PS w s0) (g1 : PS w s1)
    (c1 : ¬ (1048576 : Int) < (m.size : Int)) (c2 : ¬ (1048576 : Int) < (m'.size : Int)) (c3 : ¬ (1048576 : Int) < ((sv w s0).size : Int)) (c4 : ¬ (1048576 : Int) < ((sv w s1).size : Int)) (c5 : ¬ (1048576 : Int) < (m.size : Int) + (m'.size : Int) + ((sv w s0).size : Int) + ((sv w s1).size : Int)) :
    Calls Trym.prog 5 #[.pointer p0, .pointer s0, .string m, .pointer p1, .pointer s1, .string m'] w fun e w' => e = .returned (.bool true) ∧ Below w.heap.size w w' := by
  go_enter Trym.func5, Trym.ntmps5
  go_wp2_with (first
      | (go_at_call 19; refine (bytesExact_any _ _ _ _ _ _ _ g0 g1).mono ?_; rintro e w' ⟨r, rfl, rfl⟩)
      | (go_at_call 20; refine (lenStr_any _ _ ?_).mono ?_; (first | exact g0 | exact g1); rintro e w' ⟨rfl, rfl⟩)
      | (go_at_call 21; refine (cloneBools_two _ _ _ h0 h1).mono ?_; rintro e w1 ⟨q0, q1, rfl, hq0, hq1, hb1⟩))
  · go_ret
    exact ⟨rfl, Below.refl _ _⟩
  · clear c1 c2 c3 c4 c5 g0 g1
    have B1 := hb1.alloc hb1.size (.cells #[.pointer q0, .pointer q1] 40)
    refine (cloneStrs_two _ _ _ (k0.below B1) (k1.below B1)).mono ?_
    rintro e w2 ⟨r0, r1, r2, r3, rfl, hr0, hr1, -, -, hb2⟩
    obtain ⟨x0, a0⟩ := (((hq0.alloc _).below hb2).alloc (.cells #[.pointer r0, .pointer r1, .pointer r2, .pointer r3] 42)).atB
    obtain ⟨x1, a1⟩ := (((hq1.alloc _).below hb2).alloc (.cells #[.pointer r0, .pointer r1, .pointer r2, .pointer r3] 42)).atB
    obtain ⟨y0, e0⟩ := (hr0.alloc (.cells #[.pointer r0, .pointer r1, .pointer r2, .pointer r3] 42)).atS
    obtain ⟨y1, e1⟩ := (hr1.alloc (.cells #[.pointer r0, .pointer r1, .pointer r2, .pointer r3] 42)).atS
    have B2 := (B1.trans (hb2.mono B1.size)).alloc (Nat.le_trans B1.size hb2.size) (.cells #[.pointer r0, .pointer r1, .pointer r2, .pointer r3] 42)
    clear h0 h1 k0 k1 hq0 hq1 hr0 hr1 hb1 hb2 B1
    go_wp2_with (first
      | (go_at_call_of 23 q0; refine (valBool_at q0 x0 _ a0).mono ?_; rintro e w' ⟨rfl, rfl⟩)
      | (go_at_call_of 23 q1; refine (valBool_at q1 x1 _ a1).mono ?_; rintro e w' ⟨rfl, rfl⟩)
      | (go_at_call_of 24 r0; refine (valStr_at r0 y0 _ e0).mono ?_; rintro e w' ⟨rfl, rfl⟩)
      | (go_at_call_of 24 r1; refine (valStr_at r1 y1 _ e1).mono ?_; rintro e w' ⟨rfl, rfl⟩))
    refine (deep_at q0 r0 q1 r1 x0 y0 m m' _ _ (by simp) a0 e0).mono ?_
    rintro e w3 ⟨rfl, p', s', D⟩
    have hne : w2.heap.size + 1 ≠ w2.heap.size + 1 + 1 := by omega
    have A0 := D.a0 hne
    have A1 := D.a1 hne
    have A2 := D.a2 hne
    have D0 := D.b0
    have D1 := D.b1
    have D2 := D.b2
    have CB := D.cp.copied
    have CS := D.cs.copied
    have FB := D.cp.fresh (by simp) D.below a0 a1
    have FS := D.cs.fresh4 (by simp) D.below e0 e1
    have K0 := a0.below D.below
    have K1 := a1.below D.below
    have L0 := e0.below D.below
    have L1 := e1.below D.below
    have N36 := run_neq_self w3 Trym.underlying36 info4 q0
    have N37 := run_neq_self w3 Trym.underlying37 info9 r0
    have B3 := B2.trans (D.below.mono B2.size)
    clear D hne a0 a1 e0 e1 B2
    go_wp2_with (first
      | (go_at_call 26; refine (copiedBool_any p' q0 x0 _ CB).mono ?_; rintro e w' ⟨rfl, rfl⟩)
      | (go_at_call 27; refine (copiedStr_any s' r0 y0 _ CS).mono ?_; rintro e w' ⟨rfl, rfl⟩)
      | (go_at_call 28; refine (freshBool_any p' q0 q1 _ FB).mono ?_; rintro e w' ⟨rfl, rfl⟩)
      | (go_at_call 29; refine (freshStr_any s' r0 r1 none none _ FS).mono ?_; rintro e w' ⟨rfl, rfl⟩)
      | (go_at_call_of 30 q0; refine (keptBool_at q0 x0 _ K0).mono ?_; rintro e w' ⟨rfl, rfl⟩)
      | (go_at_call_of 30 q1; refine (keptBool_at q1 x1 _ K1).mono ?_; rintro e w' ⟨rfl, rfl⟩)
      | (go_at_call_of 31 r0; refine (keptStr_at r0 y0 _ L0).mono ?_; rintro e w' ⟨rfl, rfl⟩)
      | (go_at_call_of 31 r1; refine (keptStr_at r1 y1 _ L1).mono ?_; rintro e w' ⟨rfl, rfl⟩))
    go_ret
    exact ⟨rfl, B3⟩

theorem exact_walk (p0 s0 p1 s1 : Option Addr) (m m' : ByteArray) (w : World) (h0 : PA isB w p0) (k0 : PA isS w s0) (h1 : PA isB w p1) (k1 : PA isS w s1) :
    Calls Trym.prog 5 #[.pointer p0, .pointer s0, .string m, .pointer p1, .pointer s1, .string m'] w fun e w' => e = .returned (.bool true) ∧ Below w.heap.size w w' := by
  have g0 := k0.pt.psx
  have g1 := k1.pt.psx
  by_cases c1 : (1048576 : Int) < (m.size : Int)
  · exact exact_c1 p0 s0 p1 s1 m m' w g0 g1 c1
  by_cases c2 : (1048576 : Int) < (m'.size : Int)
  · exact exact_c2 p0 s0 p1 s1 m m' w g0 g1 c1 c2
  by_cases c3 : (1048576 : Int) < ((sv w s0).size : Int)
  · exact exact_c3 p0 s0 p1 s1 m m' w g0 g1 c1 c2 c3
  by_cases c4 : (1048576 : Int) < ((sv w s1).size : Int)
  · exact exact_c4 p0 s0 p1 s1 m m' w g0 g1 c1 c2 c3 c4
  by_cases c5 : (1048576 : Int) < (m.size : Int) + (m'.size : Int) + ((sv w s0).size : Int) + ((sv w s1).size : Int)
  · exact exact_c5 p0 s0 p1 s1 m m' w g0 g1 c1 c2 c3 c4 c5
  · exact exact_long p0 s0 p1 s1 m m' w h0 k0 h1 k1 g0 g1 c1 c2 c3 c4 c5

end Go.Proofs.Qxb6602433aMods.Auth
