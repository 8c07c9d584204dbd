/-
  FnChildEqualityCaseTable: the walk.
-/
import Derived.Test.Qxb6603191aModsZoneWalks
import Derived.Deep.RegionWith
namespace Go.Proofs.Qxb6603191aMods.Zone
open Go.RowKit

set_option maxRecDepth 100000 in
set_option maxHeartbeats 400000 in
theorem eq_c1 (l1 n1 l2 n2 : ByteArray) (w : World)  (c1 : (262144 : Int) < (l1.size : Int)) :
    Calls Trym.prog 3 #[.string l1, .string n1, .string l2, .string n2] w fun e w' => e = .returned (.bool true) ∧ w' = w := by
  go_enter Trym.func3, Trym.ntmps3
  go_wp2_with (go_at_call 5; refine (bytes4_any _ _ _ _ _).mono ?_; rintro e w' ⟨r, rfl, rfl⟩)
  all_goals (go_ret; exact ⟨rfl, rfl⟩)

set_option maxRecDepth 100000 in
set_option maxHeartbeats 400000 in
theorem eq_c2 (l1 n1 l2 n2 : ByteArray) (w : World) (c1 : ¬ (262144 : Int) < (l1.size : Int)) (c2 : (262144 : Int) < (n1.size : Int)) :
    Calls Trym.prog 3 #[.string l1, .string n1, .string l2, .string n2] w fun e w' => e = .returned (.bool true) ∧ w' = w := by
  go_enter Trym.func3, Trym.ntmps3
  go_wp2_with (go_at_call 5; refine (bytes4_any _ _ _ _ _).mono ?_; rintro e w' ⟨r, rfl, rfl⟩)
  all_goals (go_ret; exact ⟨rfl, rfl⟩)

set_option maxRecDepth 100000 in
set_option maxHeartbeats 400000 in
theorem eq_c3 (l1 n1 l2 n2 : ByteArray) (w : World) (c1 : ¬ (262144 : Int) < (l1.size : Int)) (c2 : ¬ (262144 : Int) < (n1.size : Int)) (c3 : (262144 : Int) < (l2.size : Int)) :
    Calls Trym.prog 3 #[.string l1, .string n1, .string l2, .string n2] w fun e w' => e = .returned (.bool true) ∧ w' = w := by
  go_enter Trym.func3, Trym.ntmps3
  go_wp2_with (go_at_call 5; refine (bytes4_any _ _ _ _ _).mono ?_; rintro e w' ⟨r, rfl, rfl⟩)
  all_goals (go_ret; exact ⟨rfl, rfl⟩)

set_option maxRecDepth 100000 in
set_option maxHeartbeats 400000 in
theorem eq_c4 (l1 n1 l2 n2 : ByteArray) (w : World) (c1 : ¬ (262144 : Int) < (l1.size : Int)) (c2 : ¬ (262144 : Int) < (n1.size : Int)) (c3 : ¬ (262144 : Int) < (l2.size : Int)) (c4 : (262144 : Int) < (n2.size : Int)) :
    Calls Trym.prog 3 #[.string l1, .string n1, .string l2, .string n2] w fun e w' => e = .returned (.bool true) ∧ w' = w := by
  go_enter Trym.func3, Trym.ntmps3
  go_wp2_with (go_at_call 5; refine (bytes4_any _ _ _ _ _).mono ?_; rintro e w' ⟨r, rfl, rfl⟩)
  all_goals (go_ret; exact ⟨rfl, rfl⟩)

set_option maxRecDepth 100000 in
set_option maxHeartbeats 400000 in
theorem eq_f_TT (l1 n1 : ByteArray) (w : World) (sl1 : l1.size ≤ 262144) (sn1 : n1.size ≤ 262144)
    (A : nd l1 = false) :
    Calls Trym.prog 3 #[.string l1, .string n1, .string l1, .string n1] w fun e w' => e = .returned (.bool true) ∧ w' = w := by
  have bl1 : (l1.size : Int) ≤ 1048576 := by omega
  have bn1 : (n1.size : Int) ≤ 1048576 := by omega
  have cl1 : ¬ (262144 : Int) < (l1.size : Int) := by omega
  have cn1 : ¬ (262144 : Int) < (n1.size : Int) := by omega
  go_enter Trym.func3, Trym.ntmps3
  go_wp2_with (first
    | (go_at_call 5; refine (bytes4_any _ _ _ _ _).mono ?_; rintro e w' ⟨r, rfl, rfl⟩)
    | (go_at_call 6; refine (nodot_any _ _ ?_).mono ?_; exact (Nat.le_trans sl1 (by omega)); rintro e w' ⟨rfl, rfl⟩)
    | (go_at_call 7; refine (root_any _ _).mono ?_; rintro e w' ⟨rfl, rfl⟩)
    | (go_at_call 8; refine (child_any _ _ _ ?_ ?_).mono ?_; exact bl1; exact bn1; rintro e w' ⟨rfl, rfl⟩))
  all_goals (go_ret; exact ⟨rfl, rfl⟩)

set_option maxRecDepth 100000 in
set_option maxHeartbeats 400000 in
theorem eq_f_TF_f (l1 n1 n2 : ByteArray) (w : World) (sl1 : l1.size ≤ 262144) (sn1 : n1.size ≤ 262144) (sn2 : n2.size ≤ 262144)
    (A : nd l1 = false) (F : (n1.toList == n2.toList) = false) (R1 : ro n1 = false) :
    Calls Trym.prog 3 #[.string l1, .string n1, .string l1, .string n2] w fun e w' => e = .returned (.bool true) ∧ w' = w := by
  have bl1 : (l1.size : Int) ≤ 1048576 := by omega
  have bn1 : (n1.size : Int) ≤ 1048576 := by omega
  have bn2 : (n2.size : Int) ≤ 1048576 := by omega
  have cl1 : ¬ (262144 : Int) < (l1.size : Int) := by omega
  have cn1 : ¬ (262144 : Int) < (n1.size : Int) := by omega
  have cn2 : ¬ (262144 : Int) < (n2.size : Int) := by omega
  have hS := differ_name (l := l1) F (by rintro ⟨h1, h2⟩; rw [R1] at h1; cases h1)
  go_enter Trym.func3, Trym.ntmps3
  go_wp2_with (first
    | (go_at_call 5; refine (bytes4_any _ _ _ _ _).mono ?_; rintro e w' ⟨r, rfl, rfl⟩)
    | (go_at_call 6; refine (nodot_any _ _ ?_).mono ?_; exact (Nat.le_trans sl1 (by omega)); rintro e w' ⟨rfl, rfl⟩)
    | (go_at_call 7; refine (root_any _ _).mono ?_; rintro e w' ⟨rfl, rfl⟩)
    | (go_at_call 8; refine (child_any _ _ _ ?_ ?_).mono ?_; exact bl1; (first | exact bn1 | exact bn2); rintro e w' ⟨rfl, rfl⟩))
  all_goals (go_ret; exact ⟨rfl, rfl⟩)

set_option maxRecDepth 100000 in
set_option maxHeartbeats 400000 in
theorem eq_f_TF_tf (l1 n1 n2 : ByteArray) (w : World) (sl1 : l1.size ≤ 262144) (sn1 : n1.size ≤ 262144) (sn2 : n2.size ≤ 262144)
    (A : nd l1 = false) (F : (n1.toList == n2.toList) = false) (R1 : ro n1 = true) (R2 : ro n2 = false) :
    Calls Trym.prog 3 #[.string l1, .string n1, .string l1, .string n2] w fun e w' => e = .returned (.bool true) ∧ w' = w := by
  have bl1 : (l1.size : Int) ≤ 1048576 := by omega
  have bn1 : (n1.size : Int) ≤ 1048576 := by omega
  have bn2 : (n2.size : Int) ≤ 1048576 := by omega
  have cl1 : ¬ (262144 : Int) < (l1.size : Int) := by omega
  have cn1 : ¬ (262144 : Int) < (n1.size : Int) := by omega
  have cn2 : ¬ (262144 : Int) < (n2.size : Int) := by omega
  have hS := differ_name (l := l1) F (by rintro ⟨h1, h2⟩; rw [R2] at h2; cases h2)
  go_enter Trym.func3, Trym.ntmps3
  go_wp2_with (first
    | (go_at_call 5; refine (bytes4_any _ _ _ _ _).mono ?_; rintro e w' ⟨r, rfl, rfl⟩)
    | (go_at_call 6; refine (nodot_any _ _ ?_).mono ?_; exact (Nat.le_trans sl1 (by omega)); rintro e w' ⟨rfl, rfl⟩)
    | (go_at_call 7; refine (root_any _ _).mono ?_; rintro e w' ⟨rfl, rfl⟩)
    | (go_at_call 8; refine (child_any _ _ _ ?_ ?_).mono ?_; exact bl1; (first | exact bn1 | exact bn2); rintro e w' ⟨rfl, rfl⟩))
  all_goals (go_ret; exact ⟨rfl, rfl⟩)

set_option maxRecDepth 100000 in
set_option maxHeartbeats 400000 in
theorem eq_f_TF_tt (l1 n1 n2 : ByteArray) (w : World) (sl1 : l1.size ≤ 262144) (sn1 : n1.size ≤ 262144) (sn2 : n2.size ≤ 262144)
    (A : nd l1 = false) (F : (n1.toList == n2.toList) = false) (R1 : ro n1 = true) (R2 : ro n2 = true) :
    Calls Trym.prog 3 #[.string l1, .string n1, .string l1, .string n2] w fun e w' => e = .returned (.bool true) ∧ w' = w := by
  have bl1 : (l1.size : Int) ≤ 1048576 := by omega
  have bn1 : (n1.size : Int) ≤ 1048576 := by omega
  have bn2 : (n2.size : Int) ≤ 1048576 := by omega
  have cl1 : ¬ (262144 : Int) < (l1.size : Int) := by omega
  have cn1 : ¬ (262144 : Int) < (n1.size : Int) := by omega
  have cn2 : ¬ (262144 : Int) < (n2.size : Int) := by omega
  have hS := same_root (l := l1) R1 R2
  go_enter Trym.func3, Trym.ntmps3
  go_wp2_with (first
    | (go_at_call 5; refine (bytes4_any _ _ _ _ _).mono ?_; rintro e w' ⟨r, rfl, rfl⟩)
    | (go_at_call 6; refine (nodot_any _ _ ?_).mono ?_; exact (Nat.le_trans sl1 (by omega)); rintro e w' ⟨rfl, rfl⟩)
    | (go_at_call 7; refine (root_any _ _).mono ?_; rintro e w' ⟨rfl, rfl⟩)
    | (go_at_call 8; refine (child_any _ _ _ ?_ ?_).mono ?_; exact bl1; (first | exact bn1 | exact bn2); rintro e w' ⟨rfl, rfl⟩))
  all_goals (go_ret; exact ⟨rfl, rfl⟩)

set_option maxRecDepth 100000 in
set_option maxHeartbeats 400000 in
theorem eq_t_TT (l1 n1 : ByteArray) (w : World) (sl1 : l1.size ≤ 262144) (sn1 : n1.size ≤ 262144)
    (A : nd l1 = true) :
    Calls Trym.prog 3 #[.string l1, .string n1, .string l1, .string n1] w fun e w' => e = .returned (.bool true) ∧ w' = w := by
  have bl1 : (l1.size : Int) ≤ 1048576 := by omega
  have bn1 : (n1.size : Int) ≤ 1048576 := by omega
  have cl1 : ¬ (262144 : Int) < (l1.size : Int) := by omega
  have cn1 : ¬ (262144 : Int) < (n1.size : Int) := by omega
  go_enter Trym.func3, Trym.ntmps3
  go_wp2_with (first
    | (go_at_call 5; refine (bytes4_any _ _ _ _ _).mono ?_; rintro e w' ⟨r, rfl, rfl⟩)
    | (go_at_call 6; refine (nodot_any _ _ ?_).mono ?_; exact (Nat.le_trans sl1 (by omega)); rintro e w' ⟨rfl, rfl⟩)
    | (go_at_call 7; refine (root_any _ _).mono ?_; rintro e w' ⟨rfl, rfl⟩)
    | (go_at_call 8; refine (child_any _ _ _ ?_ ?_).mono ?_; exact bl1; exact bn1; rintro e w' ⟨rfl, rfl⟩))
  all_goals (go_ret; exact ⟨rfl, rfl⟩)

set_option maxRecDepth 100000 in
set_option maxHeartbeats 400000 in
theorem eq_t_TF_f (l1 n1 n2 : ByteArray) (w : World) (sl1 : l1.size ≤ 262144) (sn1 : n1.size ≤ 262144) (sn2 : n2.size ≤ 262144)
    (A : nd l1 = true) (F : (n1.toList == n2.toList) = false) (R1 : ro n1 = false) :
    Calls Trym.prog 3 #[.string l1, .string n1, .string l1, .string n2] w fun e w' => e = .returned (.bool true) ∧ w' = w := by
  have bl1 : (l1.size : Int) ≤ 1048576 := by omega
  have bn1 : (n1.size : Int) ≤ 1048576 := by omega
  have bn2 : (n2.size : Int) ≤ 1048576 := by omega
  have cl1 : ¬ (262144 : Int) < (l1.size : Int) := by omega
  have cn1 : ¬ (262144 : Int) < (n1.size : Int) := by omega
  have cn2 : ¬ (262144 : Int) < (n2.size : Int) := by omega
  have hS := differ_name (l := l1) F (by rintro ⟨h1, h2⟩; rw [R1] at h1; cases h1)
  go_enter Trym.func3, Trym.ntmps3
  go_wp2_with (first
    | (go_at_call 5; refine (bytes4_any _ _ _ _ _).mono ?_; rintro e w' ⟨r, rfl, rfl⟩)
    | (go_at_call 6; refine (nodot_any _ _ ?_).mono ?_; exact (Nat.le_trans sl1 (by omega)); rintro e w' ⟨rfl, rfl⟩)
    | (go_at_call 7; refine (root_any _ _).mono ?_; rintro e w' ⟨rfl, rfl⟩)
    | (go_at_call 8; refine (child_any _ _ _ ?_ ?_).mono ?_; exact bl1; (first | exact bn1 | exact bn2); rintro e w' ⟨rfl, rfl⟩))
  all_goals (go_ret; exact ⟨rfl, rfl⟩)

set_option maxRecDepth 100000 in
set_option maxHeartbeats 400000 in
theorem eq_t_TF_tf (l1 n1 n2 : ByteArray) (w : World) (sl1 : l1.size ≤ 262144) (sn1 : n1.size ≤ 262144) (sn2 : n2.size ≤ 262144)
    (A : nd l1 = true) (F : (n1.toList == n2.toList) = false) (R1 : ro n1 = true) (R2 : ro n2 = false) :
    Calls Trym.prog 3 #[.string l1, .string n1, .string l1, .string n2] w fun e w' => e = .returned (.bool true) ∧ w' = w := by
  have bl1 : (l1.size : Int) ≤ 1048576 := by omega
  have bn1 : (n1.size : Int) ≤ 1048576 := by omega
  have bn2 : (n2.size : Int) ≤ 1048576 := by omega
  have cl1 : ¬ (262144 : Int) < (l1.size : Int) := by omega
  have cn1 : ¬ (262144 : Int) < (n1.size : Int) := by omega
  have cn2 : ¬ (262144 : Int) < (n2.size : Int) := by omega
  have hS := differ_name (l := l1) F (by rintro ⟨h1, h2⟩; rw [R2] at h2; cases h2)
  go_enter Trym.func3, Trym.ntmps3
  go_wp2_with (first
    | (go_at_call 5; refine (bytes4_any _ _ _ _ _).mono ?_; rintro e w' ⟨r, rfl, rfl⟩)
    | (go_at_call 6; refine (nodot_any _ _ ?_).mono ?_; exact (Nat.le_trans sl1 (by omega)); rintro e w' ⟨rfl, rfl⟩)
    | (go_at_call 7; refine (root_any _ _).mono ?_; rintro e w' ⟨rfl, rfl⟩)
    | (go_at_call 8; refine (child_any _ _ _ ?_ ?_).mono ?_; exact bl1; (first | exact bn1 | exact bn2); rintro e w' ⟨rfl, rfl⟩))
  all_goals (go_ret; exact ⟨rfl, rfl⟩)

set_option maxRecDepth 100000 in
set_option maxHeartbeats 400000 in
theorem eq_t_TF_tt (l1 n1 n2 : ByteArray) (w : World) (sl1 : l1.size ≤ 262144) (sn1 : n1.size ≤ 262144) (sn2 : n2.size ≤ 262144)
    (A : nd l1 = true) (F : (n1.toList == n2.toList) = false) (R1 : ro n1 = true) (R2 : ro n2 = true) :
    Calls Trym.prog 3 #[.string l1, .string n1, .string l1, .string n2] w fun e w' => e = .returned (.bool true) ∧ w' = w := by
  have bl1 : (l1.size : Int) ≤ 1048576 := by omega
  have bn1 : (n1.size : Int) ≤ 1048576 := by omega
  have bn2 : (n2.size : Int) ≤ 1048576 := by omega
  have cl1 : ¬ (262144 : Int) < (l1.size : Int) := by omega
  have cn1 : ¬ (262144 : Int) < (n1.size : Int) := by omega
  have cn2 : ¬ (262144 : Int) < (n2.size : Int) := by omega
  have hS := same_root (l := l1) R1 R2
  go_enter Trym.func3, Trym.ntmps3
  go_wp2_with (first
    | (go_at_call 5; refine (bytes4_any _ _ _ _ _).mono ?_; rintro e w' ⟨r, rfl, rfl⟩)
    | (go_at_call 6; refine (nodot_any _ _ ?_).mono ?_; exact (Nat.le_trans sl1 (by omega)); rintro e w' ⟨rfl, rfl⟩)
    | (go_at_call 7; refine (root_any _ _).mono ?_; rintro e w' ⟨rfl, rfl⟩)
    | (go_at_call 8; refine (child_any _ _ _ ?_ ?_).mono ?_; exact bl1; (first | exact bn1 | exact bn2); rintro e w' ⟨rfl, rfl⟩))
  all_goals (go_ret; exact ⟨rfl, rfl⟩)

set_option maxRecDepth 100000 in
set_option maxHeartbeats 400000 in
theorem eq_tt_F (l1 n1 l2 n2 : ByteArray) (w : World) (sl1 : l1.size ≤ 262144) (sn1 : n1.size ≤ 262144) (sl2 : l2.size ≤ 262144) (sn2 : n2.size ≤ 262144)
    (A : nd l1 = true) (B : nd l2 = true) (E : (l1.toList == l2.toList) = false) :
    Calls Trym.prog 3 #[.string l1, .string n1, .string l2, .string n2] w fun e w' => e = .returned (.bool true) ∧ w' = w := by
  have bl1 : (l1.size : Int) ≤ 1048576 := by omega
  have bn1 : (n1.size : Int) ≤ 1048576 := by omega
  have bl2 : (l2.size : Int) ≤ 1048576 := by omega
  have bn2 : (n2.size : Int) ≤ 1048576 := by omega
  have cl1 : ¬ (262144 : Int) < (l1.size : Int) := by omega
  have cn1 : ¬ (262144 : Int) < (n1.size : Int) := by omega
  have cl2 : ¬ (262144 : Int) < (l2.size : Int) := by omega
  have cn2 : ¬ (262144 : Int) < (n2.size : Int) := by omega
  have hS := differ_label_nodot (a := n1) (b := n2) E A B
  go_enter Trym.func3, Trym.ntmps3
  go_wp2_with (first
    | (go_at_call 5; refine (bytes4_any _ _ _ _ _).mono ?_; rintro e w' ⟨r, rfl, rfl⟩)
    | (go_at_call 6; refine (nodot_any _ _ ?_).mono ?_; (first | exact (Nat.le_trans sl1 (by omega)) | exact (Nat.le_trans sl2 (by omega))); rintro e w' ⟨rfl, rfl⟩)
    | (go_at_call 7; refine (root_any _ _).mono ?_; rintro e w' ⟨rfl, rfl⟩)
    | (go_at_call 8; refine (child_any _ _ _ ?_ ?_).mono ?_; (first | exact bl1 | exact bl2); (first | exact bn1 | exact bn2); rintro e w' ⟨rfl, rfl⟩))
  all_goals (go_ret; exact ⟨rfl, rfl⟩)

set_option maxRecDepth 100000 in
set_option maxHeartbeats 400000 in
theorem eq_ff_FT (l1 n1 l2 : ByteArray) (w : World) (sl1 : l1.size ≤ 262144) (sn1 : n1.size ≤ 262144) (sl2 : l2.size ≤ 262144)
    (A : nd l1 = false) (E : (l1.toList == l2.toList) = false) :
    Calls Trym.prog 3 #[.string l1, .string n1, .string l2, .string n1] w fun e w' => e = .returned (.bool true) ∧ w' = w := by
  have bl1 : (l1.size : Int) ≤ 1048576 := by omega
  have bn1 : (n1.size : Int) ≤ 1048576 := by omega
  have bl2 : (l2.size : Int) ≤ 1048576 := by omega
  have cl1 : ¬ (262144 : Int) < (l1.size : Int) := by omega
  have cn1 : ¬ (262144 : Int) < (n1.size : Int) := by omega
  have cl2 : ¬ (262144 : Int) < (l2.size : Int) := by omega
  have hS := differ_label_same (n := n1) E
  go_enter Trym.func3, Trym.ntmps3
  go_wp2_with (first
    | (go_at_call 5; refine (bytes4_any _ _ _ _ _).mono ?_; rintro e w' ⟨r, rfl, rfl⟩)
    | (go_at_call 6; refine (nodot_any _ _ ?_).mono ?_; (first | exact (Nat.le_trans sl1 (by omega)) | exact (Nat.le_trans sl2 (by omega))); rintro e w' ⟨rfl, rfl⟩)
    | (go_at_call 7; refine (root_any _ _).mono ?_; rintro e w' ⟨rfl, rfl⟩)
    | (go_at_call 8; refine (child_any _ _ _ ?_ ?_).mono ?_; (first | exact bl1 | exact bl2); exact bn1; rintro e w' ⟨rfl, rfl⟩))
  all_goals (go_ret; exact ⟨rfl, rfl⟩)

set_option maxRecDepth 100000 in
set_option maxHeartbeats 400000 in
theorem eq_ff_FF_f (l1 n1 l2 n2 : ByteArray) (w : World) (sl1 : l1.size ≤ 262144) (sn1 : n1.size ≤ 262144) (sl2 : l2.size ≤ 262144) (sn2 : n2.size ≤ 262144)
    (A : nd l1 = false) (E : (l1.toList == l2.toList) = false) (F : (n1.toList == n2.toList) = false) (R1 : ro n1 = false) :
    Calls Trym.prog 3 #[.string l1, .string n1, .string l2, .string n2] w fun e w' => e = .returned (.bool true) ∧ w' = w := by
  have bl1 : (l1.size : Int) ≤ 1048576 := by omega
  have bn1 : (n1.size : Int) ≤ 1048576 := by omega
  have bl2 : (l2.size : Int) ≤ 1048576 := by omega
  have bn2 : (n2.size : Int) ≤ 1048576 := by omega
  have cl1 : ¬ (262144 : Int) < (l1.size : Int) := by omega
  have cn1 : ¬ (262144 : Int) < (n1.size : Int) := by omega
  have cl2 : ¬ (262144 : Int) < (l2.size : Int) := by omega
  have cn2 : ¬ (262144 : Int) < (n2.size : Int) := by omega
  go_enter Trym.func3, Trym.ntmps3
  go_wp2_with (first
    | (go_at_call 5; refine (bytes4_any _ _ _ _ _).mono ?_; rintro e w' ⟨r, rfl, rfl⟩)
    | (go_at_call 6; refine (nodot_any _ _ ?_).mono ?_; (first | exact (Nat.le_trans sl1 (by omega)) | exact (Nat.le_trans sl2 (by omega))); rintro e w' ⟨rfl, rfl⟩)
    | (go_at_call 7; refine (root_any _ _).mono ?_; rintro e w' ⟨rfl, rfl⟩)
    | (go_at_call 8; refine (child_any _ _ _ ?_ ?_).mono ?_; (first | exact bl1 | exact bl2); (first | exact bn1 | exact bn2); rintro e w' ⟨rfl, rfl⟩))
  all_goals (go_ret; exact ⟨rfl, rfl⟩)

set_option maxRecDepth 100000 in
set_option maxHeartbeats 400000 in
theorem eq_ff_FF_tf (l1 n1 l2 n2 : ByteArray) (w : World) (sl1 : l1.size ≤ 262144) (sn1 : n1.size ≤ 262144) (sl2 : l2.size ≤ 262144) (sn2 : n2.size ≤ 262144)
    (A : nd l1 = false) (E : (l1.toList == l2.toList) = false) (F : (n1.toList == n2.toList) = false) (R1 : ro n1 = true) (R2 : ro n2 = false) :
    Calls Trym.prog 3 #[.string l1, .string n1, .string l2, .string n2] w fun e w' => e = .returned (.bool true) ∧ w' = w := by
  have bl1 : (l1.size : Int) ≤ 1048576 := by omega
  have bn1 : (n1.size : Int) ≤ 1048576 := by omega
  have bl2 : (l2.size : Int) ≤ 1048576 := by omega
  have bn2 : (n2.size : Int) ≤ 1048576 := by omega
  have cl1 : ¬ (262144 : Int) < (l1.size : Int) := by omega
  have cn1 : ¬ (262144 : Int) < (n1.size : Int) := by omega
  have cl2 : ¬ (262144 : Int) < (l2.size : Int) := by omega
  have cn2 : ¬ (262144 : Int) < (n2.size : Int) := by omega
  go_enter Trym.func3, Trym.ntmps3
  go_wp2_with (first
    | (go_at_call 5; refine (bytes4_any _ _ _ _ _).mono ?_; rintro e w' ⟨r, rfl, rfl⟩)
    | (go_at_call 6; refine (nodot_any _ _ ?_).mono ?_; (first | exact (Nat.le_trans sl1 (by omega)) | exact (Nat.le_trans sl2 (by omega))); rintro e w' ⟨rfl, rfl⟩)
    | (go_at_call 7; refine (root_any _ _).mono ?_; rintro e w' ⟨rfl, rfl⟩)
    | (go_at_call 8; refine (child_any _ _ _ ?_ ?_).mono ?_; (first | exact bl1 | exact bl2); (first | exact bn1 | exact bn2); rintro e w' ⟨rfl, rfl⟩))
  all_goals (go_ret; exact ⟨rfl, rfl⟩)

set_option maxRecDepth 100000 in
set_option maxHeartbeats 400000 in
theorem eq_ff_FF_tt (l1 n1 l2 n2 : ByteArray) (w : World) (sl1 : l1.size ≤ 262144) (sn1 : n1.size ≤ 262144) (sl2 : l2.size ≤ 262144) (sn2 : n2.size ≤ 262144)
    (A : nd l1 = false) (E : (l1.toList == l2.toList) = false) (F : (n1.toList == n2.toList) = false) (R1 : ro n1 = true) (R2 : ro n2 = true) :
    Calls Trym.prog 3 #[.string l1, .string n1, .string l2, .string n2] w fun e w' => e = .returned (.bool true) ∧ w' = w := by
  have bl1 : (l1.size : Int) ≤ 1048576 := by omega
  have bn1 : (n1.size : Int) ≤ 1048576 := by omega
  have bl2 : (l2.size : Int) ≤ 1048576 := by omega
  have bn2 : (n2.size : Int) ≤ 1048576 := by omega
  have cl1 : ¬ (262144 : Int) < (l1.size : Int) := by omega
  have cn1 : ¬ (262144 : Int) < (n1.size : Int) := by omega
  have cl2 : ¬ (262144 : Int) < (l2.size : Int) := by omega
  have cn2 : ¬ (262144 : Int) < (n2.size : Int) := by omega
  have hS := differ_label_root (a := n1) (b := n2) E R1 R2
  go_enter Trym.func3, Trym.ntmps3
  go_wp2_with (first
    | (go_at_call 5; refine (bytes4_any _ _ _ _ _).mono ?_; rintro e w' ⟨r, rfl, rfl⟩)
    | (go_at_call 6; refine (nodot_any _ _ ?_).mono ?_; (first | exact (Nat.le_trans sl1 (by omega)) | exact (Nat.le_trans sl2 (by omega))); rintro e w' ⟨rfl, rfl⟩)
    | (go_at_call 7; refine (root_any _ _).mono ?_; rintro e w' ⟨rfl, rfl⟩)
    | (go_at_call 8; refine (child_any _ _ _ ?_ ?_).mono ?_; (first | exact bl1 | exact bl2); (first | exact bn1 | exact bn2); rintro e w' ⟨rfl, rfl⟩))
  all_goals (go_ret; exact ⟨rfl, rfl⟩)

set_option maxRecDepth 100000 in
set_option maxHeartbeats 400000 in
theorem eq_tf_FT (l1 n1 l2 : ByteArray) (w : World) (sl1 : l1.size ≤ 262144) (sn1 : n1.size ≤ 262144) (sl2 : l2.size ≤ 262144)
    (A : nd l1 = true) (B : nd l2 = false) (E : (l1.toList == l2.toList) = false) :
    Calls Trym.prog 3 #[.string l1, .string n1, .string l2, .string n1] w fun e w' => e = .returned (.bool true) ∧ w' = w := by
  have bl1 : (l1.size : Int) ≤ 1048576 := by omega
  have bn1 : (n1.size : Int) ≤ 1048576 := by omega
  have bl2 : (l2.size : Int) ≤ 1048576 := by omega
  have cl1 : ¬ (262144 : Int) < (l1.size : Int) := by omega
  have cn1 : ¬ (262144 : Int) < (n1.size : Int) := by omega
  have cl2 : ¬ (262144 : Int) < (l2.size : Int) := by omega
  have hS := differ_label_same (n := n1) E
  go_enter Trym.func3, Trym.ntmps3
  go_wp2_with (first
    | (go_at_call 5; refine (bytes4_any _ _ _ _ _).mono ?_; rintro e w' ⟨r, rfl, rfl⟩)
    | (go_at_call 6; refine (nodot_any _ _ ?_).mono ?_; (first | exact (Nat.le_trans sl1 (by omega)) | exact (Nat.le_trans sl2 (by omega))); rintro e w' ⟨rfl, rfl⟩)
    | (go_at_call 7; refine (root_any _ _).mono ?_; rintro e w' ⟨rfl, rfl⟩)
    | (go_at_call 8; refine (child_any _ _ _ ?_ ?_).mono ?_; (first | exact bl1 | exact bl2); exact bn1; rintro e w' ⟨rfl, rfl⟩))
  all_goals (go_ret; exact ⟨rfl, rfl⟩)

set_option maxRecDepth 100000 in
set_option maxHeartbeats 400000 in
theorem eq_tf_FF_f (l1 n1 l2 n2 : ByteArray) (w : World) (sl1 : l1.size ≤ 262144) (sn1 : n1.size ≤ 262144) (sl2 : l2.size ≤ 262144) (sn2 : n2.size ≤ 262144)
    (A : nd l1 = true) (B : nd l2 = false) (E : (l1.toList == l2.toList) = false) (F : (n1.toList == n2.toList) = false) (R1 : ro n1 = false) :
    Calls Trym.prog 3 #[.string l1, .string n1, .string l2, .string n2] w fun e w' => e = .returned (.bool true) ∧ w' = w := by
  have bl1 : (l1.size : Int) ≤ 1048576 := by omega
  have bn1 : (n1.size : Int) ≤ 1048576 := by omega
  have bl2 : (l2.size : Int) ≤ 1048576 := by omega
  have bn2 : (n2.size : Int) ≤ 1048576 := by omega
  have cl1 : ¬ (262144 : Int) < (l1.size : Int) := by omega
  have cn1 : ¬ (262144 : Int) < (n1.size : Int) := by omega
  have cl2 : ¬ (262144 : Int) < (l2.size : Int) := by omega
  have cn2 : ¬ (262144 : Int) < (n2.size : Int) := by omega
  go_enter Trym.func3, Trym.ntmps3
  go_wp2_with (first
    | (go_at_call 5; refine (bytes4_any _ _ _ _ _).mono ?_; rintro e w' ⟨r, rfl, rfl⟩)
    | (go_at_call 6; refine (nodot_any _ _ ?_).mono ?_; (first | exact (Nat.le_trans sl1 (by omega)) | exact (Nat.le_trans sl2 (by omega))); rintro e w' ⟨rfl, rfl⟩)
    | (go_at_call 7; refine (root_any _ _).mono ?_; rintro e w' ⟨rfl, rfl⟩)
    | (go_at_call 8; refine (child_any _ _ _ ?_ ?_).mono ?_; (first | exact bl1 | exact bl2); (first | exact bn1 | exact bn2); rintro e w' ⟨rfl, rfl⟩))
  all_goals (go_ret; exact ⟨rfl, rfl⟩)

set_option maxRecDepth 100000 in
set_option maxHeartbeats 400000 in
theorem eq_tf_FF_tf (l1 n1 l2 n2 : ByteArray) (w : World) (sl1 : l1.size ≤ 262144) (sn1 : n1.size ≤ 262144) (sl2 : l2.size ≤ 262144) (sn2 : n2.size ≤ 262144)
    (A : nd l1 = true) (B : nd l2 = false) (E : (l1.toList == l2.toList) = false) (F : (n1.toList == n2.toList) = false) (R1 : ro n1 = true) (R2 : ro n2 = false) :
    Calls Trym.prog 3 #[.string l1, .string n1, .string l2, .string n2] w fun e w' => e = .returned (.bool true) ∧ w' = w := by
  have bl1 : (l1.size : Int) ≤ 1048576 := by omega
  have bn1 : (n1.size : Int) ≤ 1048576 := by omega
  have bl2 : (l2.size : Int) ≤ 1048576 := by omega
  have bn2 : (n2.size : Int) ≤ 1048576 := by omega
  have cl1 : ¬ (262144 : Int) < (l1.size : Int) := by omega
  have cn1 : ¬ (262144 : Int) < (n1.size : Int) := by omega
  have cl2 : ¬ (262144 : Int) < (l2.size : Int) := by omega
  have cn2 : ¬ (262144 : Int) < (n2.size : Int) := by omega
  go_enter Trym.func3, Trym.ntmps3
  go_wp2_with (first
    | (go_at_call 5; refine (bytes4_any _ _ _ _ _).mono ?_; rintro e w' ⟨r, rfl, rfl⟩)
    | (go_at_call 6; refine (nodot_any _ _ ?_).mono ?_; (first | exact (Nat.le_trans sl1 (by omega)) | exact (Nat.le_trans sl2 (by omega))); rintro e w' ⟨rfl, rfl⟩)
    | (go_at_call 7; refine (root_any _ _).mono ?_; rintro e w' ⟨rfl, rfl⟩)
    | (go_at_call 8; refine (child_any _ _ _ ?_ ?_).mono ?_; (first | exact bl1 | exact bl2); (first | exact bn1 | exact bn2); rintro e w' ⟨rfl, rfl⟩))
  all_goals (go_ret; exact ⟨rfl, rfl⟩)

set_option maxRecDepth 100000 in
set_option maxHeartbeats 400000 in
theorem eq_tf_FF_tt (l1 n1 l2 n2 : ByteArray) (w : World) (sl1 : l1.size ≤ 262144) (sn1 : n1.size ≤ 262144) (sl2 : l2.size ≤ 262144) (sn2 : n2.size ≤ 262144)
    (A : nd l1 = true) (B : nd l2 = false) (E : (l1.toList == l2.toList) = false) (F : (n1.toList == n2.toList) = false) (R1 : ro n1 = true) (R2 : ro n2 = true) :
    Calls Trym.prog 3 #[.string l1, .string n1, .string l2, .string n2] w fun e w' => e = .returned (.bool true) ∧ w' = w := by
  have bl1 : (l1.size : Int) ≤ 1048576 := by omega
  have bn1 : (n1.size : Int) ≤ 1048576 := by omega
  have bl2 : (l2.size : Int) ≤ 1048576 := by omega
  have bn2 : (n2.size : Int) ≤ 1048576 := by omega
  have cl1 : ¬ (262144 : Int) < (l1.size : Int) := by omega
  have cn1 : ¬ (262144 : Int) < (n1.size : Int) := by omega
  have cl2 : ¬ (262144 : Int) < (l2.size : Int) := by omega
  have cn2 : ¬ (262144 : Int) < (n2.size : Int) := by omega
  have hS := differ_label_root (a := n1) (b := n2) E R1 R2
  go_enter Trym.func3, Trym.ntmps3
  go_wp2_with (first
    | (go_at_call 5; refine (bytes4_any _ _ _ _ _).mono ?_; rintro e w' ⟨r, rfl, rfl⟩)
    | (go_at_call 6; refine (nodot_any _ _ ?_).mono ?_; (first | exact (Nat.le_trans sl1 (by omega)) | exact (Nat.le_trans sl2 (by omega))); rintro e w' ⟨rfl, rfl⟩)
    | (go_at_call 7; refine (root_any _ _).mono ?_; rintro e w' ⟨rfl, rfl⟩)
    | (go_at_call 8; refine (child_any _ _ _ ?_ ?_).mono ?_; (first | exact bl1 | exact bl2); (first | exact bn1 | exact bn2); rintro e w' ⟨rfl, rfl⟩))
  all_goals (go_ret; exact ⟨rfl, rfl⟩)

theorem eq_walk (l1 n1 l2 n2 : ByteArray) (w : World) :
    Calls Trym.prog 3 #[.string l1, .string n1, .string l2, .string n2] w fun e w' => e = .returned (.bool true) ∧ w' = w := by
  by_cases c1 : (262144 : Int) < (l1.size : Int)
  · exact eq_c1 l1 n1 l2 n2 w c1
  by_cases c2 : (262144 : Int) < (n1.size : Int)
  · exact eq_c2 l1 n1 l2 n2 w c1 c2
  by_cases c3 : (262144 : Int) < (l2.size : Int)
  · exact eq_c3 l1 n1 l2 n2 w c1 c2 c3
  by_cases c4 : (262144 : Int) < (n2.size : Int)
  · exact eq_c4 l1 n1 l2 n2 w c1 c2 c3 c4
  have s1 : l1.size ≤ 262144 := by omega
  have t1 : n1.size ≤ 262144 := by omega
  have s2 : l2.size ≤ 262144 := by omega
  have t2 : n2.size ≤ 262144 := by omega
  clear c1 c2 c3 c4
  cases E : l1.toList == l2.toList
  · cases A : nd l1
    · cases F : n1.toList == n2.toList
      · cases R1 : ro n1
        · exact eq_ff_FF_f l1 n1 l2 n2 w s1 t1 s2 t2 A E F R1
        · cases R2 : ro n2
          · exact eq_ff_FF_tf l1 n1 l2 n2 w s1 t1 s2 t2 A E F R1 R2
          · exact eq_ff_FF_tt l1 n1 l2 n2 w s1 t1 s2 t2 A E F R1 R2
      · obtain rfl : n1 = n2 := toList_inj (eq_of_beq F)
        exact eq_ff_FT l1 n1 l2 w s1 t1 s2 A E
    · cases B : nd l2
      · cases F : n1.toList == n2.toList
        · cases R1 : ro n1
          · exact eq_tf_FF_f l1 n1 l2 n2 w s1 t1 s2 t2 A B E F R1
          · cases R2 : ro n2
            · exact eq_tf_FF_tf l1 n1 l2 n2 w s1 t1 s2 t2 A B E F R1 R2
            · exact eq_tf_FF_tt l1 n1 l2 n2 w s1 t1 s2 t2 A B E F R1 R2
        · obtain rfl : n1 = n2 := toList_inj (eq_of_beq F)
          exact eq_tf_FT l1 n1 l2 w s1 t1 s2 A B E
      · exact eq_tt_F l1 n1 l2 n2 w s1 t1 s2 t2 A B E
  · obtain rfl : l1 = l2 := toList_inj (eq_of_beq E)
    cases A : nd l1
    · cases F : n1.toList == n2.toList
      · cases R1 : ro n1
        · exact eq_f_TF_f l1 n1 n2 w s1 t1 t2 A F R1
        · cases R2 : ro n2
          · exact eq_f_TF_tf l1 n1 n2 w s1 t1 t2 A F R1 R2
          · exact eq_f_TF_tt l1 n1 n2 w s1 t1 t2 A F R1 R2
      · obtain rfl : n1 = n2 := toList_inj (eq_of_beq F)
        exact eq_f_TT l1 n1 w s1 t1 A
    · cases F : n1.toList == n2.toList
      · cases R1 : ro n1
        · exact eq_t_TF_f l1 n1 n2 w s1 t1 t2 A F R1
        · cases R2 : ro n2
          · exact eq_t_TF_tf l1 n1 n2 w s1 t1 t2 A F R1 R2
          · exact eq_t_TF_tt l1 n1 n2 w s1 t1 t2 A F R1 R2
      · obtain rfl : n1 = n2 := toList_inj (eq_of_beq F)
        exact eq_t_TT l1 n1 w s1 t1 A

end Go.Proofs.Qxb6603191aMods.Zone
