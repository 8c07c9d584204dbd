/-
  FnAuthOptionsDeepCopyIntoExact: the ways that end at a bound on the lengths.
-/
import Derived.Test.Qxb6602433aModsBytes
import Derived.Test.Qxb6602433aModsCloneB
import Derived.Test.Qxb6602433aModsCloneS
import Derived.Test.Qxb6602433aModsDeep
import Derived.Deep.DeepMust
namespace Go.Proofs.Qxb6602433aMods.Auth
open Go.RowKit

theorem cloneBools_two (p0 p1 : Option Addr) (w : World) (h0 : PA isB w p0) (h1 : PA isB w p1) :
    Calls Trym.prog 21 #[.agg #[.pointer p0, .pointer p1]] w fun e w' => ∃ q0 q1, e = .returned (.agg #[.pointer q0, .pointer q1]) ∧ PT isB w' q0 ∧ PT isB w' q1 ∧ Below w.heap.size w w' :=
  cloneBools_any (fun i => if i = 0 then p0 else p1) w (fun i _ => by
    by_cases e : i = 0
    · simp only [e, if_true]; exact h0
    · simp only [e, if_false]; exact h1)

theorem cloneStrs_two (p0 p1 : Option Addr) (w : World) (h0 : PA isS w p0) (h1 : PA isS w p1) :
    Calls Trym.prog 22 #[.agg #[.pointer p0, .pointer p1, .pointer none, .pointer none]] w fun e w' => ∃ q0 q1 q2 q3, e = .returned (.agg #[.pointer q0, .pointer q1, .pointer q2, .pointer q3]) ∧ PT isS w' q0 ∧ PT isS w' q1 ∧ PT isS w' q2 ∧ PT isS w' q3 ∧ Below w.heap.size w w' :=
  cloneStrs_any (fun i => if i = 0 then p0 else if i = 1 then p1 else none) w (fun i _ => by
    by_cases e : i = 0
    · simp only [e, if_true]; exact h0
    · by_cases e1 : i = 1
      · simp only [e1, if_true]; exact h1
      · simp only [e, e1, if_false]; exact .inl rfl)

set_option maxRecDepth 100000 in
set_option maxHeartbeats 400000 in
theorem exact_c1 (p0 s0 p1 s1 : Option Addr) (m m' : ByteArray) (w : World) (g0 : PS w s0) (g1 : PS w s1)
     (c1 : (1048576 : Int) < (m.size : Int)) :
    Calls Trym.prog 5 #[.pointer p0, .pointer s0, .string m, .pointer p1, .pointer s1, .string m'] w fun e w' => e = .returned (.bool true) ∧ Below w.heap.size w w' := by
  go_enter Trym.func5, Trym.ntmps5
  go_wp2_with (first
      | (go_at_call 19; refine (bytesExact_any _ _ _ _ _ _ _ g0 g1).mono ?_; rintro e w' ⟨r, rfl, rfl⟩)
      | (go_at_call 20; refine (lenStr_any _ _ ?_).mono ?_; (first | exact g0 | exact g1); rintro e w' ⟨rfl, rfl⟩))
  all_goals (go_ret; exact ⟨rfl, Below.refl _ _⟩)

set_option maxRecDepth 100000 in
set_option maxHeartbeats 400000 in
theorem exact_c2 (p0 s0 p1 s1 : Option Addr) (m m' : ByteArray) (w : World) (g0 : PS w s0) (g1 : PS w s1)
    (c1 : ¬ (1048576 : Int) < (m.size : Int)) (c2 : (1048576 : Int) < (m'.size : Int)) :
    Calls Trym.prog 5 #[.pointer p0, .pointer s0, .string m, .pointer p1, .pointer s1, .string m'] w fun e w' => e = .returned (.bool true) ∧ Below w.heap.size w w' := by
  go_enter Trym.func5, Trym.ntmps5
  go_wp2_with (first
      | (go_at_call 19; refine (bytesExact_any _ _ _ _ _ _ _ g0 g1).mono ?_; rintro e w' ⟨r, rfl, rfl⟩)
      | (go_at_call 20; refine (lenStr_any _ _ ?_).mono ?_; (first | exact g0 | exact g1); rintro e w' ⟨rfl, rfl⟩))
  all_goals (go_ret; exact ⟨rfl, Below.refl _ _⟩)

set_option maxRecDepth 100000 in
set_option maxHeartbeats 400000 in
theorem exact_c3 (p0 s0 p1 s1 : Option Addr) (m m' : ByteArray) (w : World) (g0 : PS w s0) (g1 : PS w s1)
    (c1 : ¬ (1048576 : Int) < (m.size : Int)) (c2 : ¬ (1048576 : Int) < (m'.size : Int)) (c3 : (1048576 : Int) < ((sv w s0).size : Int)) :
    Calls Trym.prog 5 #[.pointer p0, .pointer s0, .string m, .pointer p1, .pointer s1, .string m'] w fun e w' => e = .returned (.bool true) ∧ Below w.heap.size w w' := by
  go_enter Trym.func5, Trym.ntmps5
  go_wp2_with (first
      | (go_at_call 19; refine (bytesExact_any _ _ _ _ _ _ _ g0 g1).mono ?_; rintro e w' ⟨r, rfl, rfl⟩)
      | (go_at_call 20; refine (lenStr_any _ _ ?_).mono ?_; (first | exact g0 | exact g1); rintro e w' ⟨rfl, rfl⟩))
  all_goals (go_ret; exact ⟨rfl, Below.refl _ _⟩)

set_option maxRecDepth 100000 in
set_option maxHeartbeats 400000 in
theorem exact_c4 (p0 s0 p1 s1 : Option Addr) (m m' : ByteArray) (w : World) (g0 : PS w s0) (g1 : PS w s1)
    (c1 : ¬ (1048576 : Int) < (m.size : Int)) (c2 : ¬ (1048576 : Int) < (m'.size : Int)) (c3 : ¬ (1048576 : Int) < ((sv w s0).size : Int)) (c4 : (1048576 : Int) < ((sv w s1).size : Int)) :
    Calls Trym.prog 5 #[.pointer p0, .pointer s0, .string m, .pointer p1, .pointer s1, .string m'] w fun e w' => e = .returned (.bool true) ∧ Below w.heap.size w w' := by
  go_enter Trym.func5, Trym.ntmps5
  go_wp2_with (first
      | (go_at_call 19; refine (bytesExact_any _ _ _ _ _ _ _ g0 g1).mono ?_; rintro e w' ⟨r, rfl, rfl⟩)
      | (go_at_call 20; refine (lenStr_any _ _ ?_).mono ?_; (first | exact g0 | exact g1); rintro e w' ⟨rfl, rfl⟩))
  all_goals (go_ret; exact ⟨rfl, Below.refl _ _⟩)

set_option maxRecDepth 100000 in
set_option maxHeartbeats 400000 in
theorem exact_c5 (p0 s0 p1 s1 : Option Addr) (m m' : ByteArray) (w : World) (g0 : PS w s0) (g1 : PS w s1)
    (c1 : ¬ (1048576 : Int) < (m.size : Int)) (c2 : ¬ (1048576 : Int) < (m'.size : Int)) (c3 : ¬ (1048576 : Int) < ((sv w s0).size : Int)) (c4 : ¬ (1048576 : Int) < ((sv w s1).size : Int)) (c5 : (1048576 : Int) < (m.size : Int) + (m'.size : Int) + ((sv w s0).size : Int) + ((sv w s1).size : Int)) :
    Calls Trym.prog 5 #[.pointer p0, .pointer s0, .string m, .pointer p1, .pointer s1, .string m'] w fun e w' => e = .returned (.bool true) ∧ Below w.heap.size w w' := by
  go_enter Trym.func5, Trym.ntmps5
  go_wp2_with (first
      | (go_at_call 19; refine (bytesExact_any _ _ _ _ _ _ _ g0 g1).mono ?_; rintro e w' ⟨r, rfl, rfl⟩)
      | (go_at_call 20; refine (lenStr_any _ _ ?_).mono ?_; (first | exact g0 | exact g1); rintro e w' ⟨rfl, rfl⟩))
  all_goals (go_ret; exact ⟨rfl, Below.refl _ _⟩)

end Go.Proofs.Qxb6602433aMods.Auth
