/-
  FnWildcardOfCollidesOnlyAtRoot: the walk.
-/
import Derived.Test.Qxb6602761aModsWild
import Derived.Deep.RegionWith
namespace Go.Proofs.Qxb6602761aMods.Wild
open Go.RowKit

set_option maxRecDepth 100000 in
set_option maxHeartbeats 400000 in
theorem walk_c1 (a b : ByteArray) (w : World) (c1 : (1048576 : Int) < (a.size : Int)) :
    Calls Trym.prog 6 #[.string a, .string b] w fun e w' => e = .returned (.bool true) ∧ w' = w := by
  go_enter Trym.func6, Trym.ntmps6
  go_wp2_with (go_at_call 15; refine (bytes_any _ _ _).mono ?_; rintro e w' ⟨r, rfl, rfl⟩)
  all_goals (go_ret; exact ⟨rfl, rfl⟩)

set_option maxRecDepth 100000 in
set_option maxHeartbeats 400000 in
theorem walk_c2 (a b : ByteArray) (w : World) (c1 : ¬ (1048576 : Int) < (a.size : Int)) (c2 : (1048576 : Int) < (b.size : Int)) :
    Calls Trym.prog 6 #[.string a, .string b] w fun e w' => e = .returned (.bool true) ∧ w' = w := by
  go_enter Trym.func6, Trym.ntmps6
  go_wp2_with (go_at_call 15; refine (bytes_any _ _ _).mono ?_; rintro e w' ⟨r, rfl, rfl⟩)
  all_goals (go_ret; exact ⟨rfl, rfl⟩)

set_option maxRecDepth 100000 in
set_option maxHeartbeats 400000 in
theorem walk_c3 (a b : ByteArray) (w : World) (c1 : ¬ (1048576 : Int) < (a.size : Int)) (c2 : ¬ (1048576 : Int) < (b.size : Int)) (c3 : (1048576 : Int) < (a.size : Int) + (b.size : Int)) :
    Calls Trym.prog 6 #[.string a, .string b] w fun e w' => e = .returned (.bool true) ∧ w' = w := by
  go_enter Trym.func6, Trym.ntmps6
  go_wp2_with (go_at_call 15; refine (bytes_any _ _ _).mono ?_; rintro e w' ⟨r, rfl, rfl⟩)
  all_goals (go_ret; exact ⟨rfl, rfl⟩)

set_option maxRecDepth 100000 in
set_option maxHeartbeats 400000 in
theorem walk_long (a b : ByteArray) (w : World) (c1 : ¬ (1048576 : Int) < (a.size : Int)) (c2 : ¬ (1048576 : Int) < (b.size : Int)) (c3 : ¬ (1048576 : Int) < (a.size : Int) + (b.size : Int)) :
    Calls Trym.prog 6 #[.string a, .string b] w fun e w' => e = .returned (.bool true) ∧ w' = w := by
  have la : (a.size : Int) ≤ 1048576 := by omega
  have lb : (b.size : Int) ≤ 1048576 := by omega
  by_cases hE : (a.toList == b.toList) = true
  · obtain rfl : a = b := toList_inj (by simpa using hE)
    clear hE
    go_enter Trym.func6, Trym.ntmps6
    go_wp2_with (first
      | (go_at_call 15; refine (bytes_any _ _ _).mono ?_; rintro e w' ⟨r, rfl, rfl⟩)
      | (go_at_call 16; refine (wild_any _ _ la).mono ?_; rintro e w' ⟨rfl, rfl⟩)
      | (go_at_call 17; refine (root_any _ _).mono ?_; rintro e w' ⟨rfl, rfl⟩))
    all_goals (go_ret; exact ⟨rfl, rfl⟩)
  · have hE : (a.toList == b.toList) = false := by simpa using hE
    by_cases h : rt a = true ∧ rt b = true
    · obtain ⟨ra, rb⟩ := h
      have hC := wc_both ra rb
      go_enter Trym.func6, Trym.ntmps6
      go_wp2_with (first
        | (go_at_call 15; refine (bytes_any _ _ _).mono ?_; rintro e w' ⟨r, rfl, rfl⟩)
        | (go_at_call_of 16 a; refine (wild_any a _ la).mono ?_; rintro e w' ⟨rfl, rfl⟩)
        | (go_at_call_of 16 b; refine (wild_any b _ lb).mono ?_; rintro e w' ⟨rfl, rfl⟩)
        | (go_at_call 17; refine (root_any _ _).mono ?_; rintro e w' ⟨rfl, rfl⟩))
      all_goals (go_ret; exact ⟨rfl, rfl⟩)
    · have hC := wc_not hE h
      cases ra : rt a
      · clear h
        go_enter Trym.func6, Trym.ntmps6
        go_wp2_with (first
          | (go_at_call 15; refine (bytes_any _ _ _).mono ?_; rintro e w' ⟨r, rfl, rfl⟩)
          | (go_at_call_of 16 a; refine (wild_any a _ la).mono ?_; rintro e w' ⟨rfl, rfl⟩)
          | (go_at_call_of 16 b; refine (wild_any b _ lb).mono ?_; rintro e w' ⟨rfl, rfl⟩)
          | (go_at_call 17; refine (root_any _ _).mono ?_; rintro e w' ⟨rfl, rfl⟩))
        all_goals (go_ret; exact ⟨rfl, rfl⟩)
      · have rb : rt b = false := by
          cases hb : rt b
          · rfl
          · exact absurd ⟨ra, hb⟩ h
        clear h
        go_enter Trym.func6, Trym.ntmps6
        go_wp2_with (first
          | (go_at_call 15; refine (bytes_any _ _ _).mono ?_; rintro e w' ⟨r, rfl, rfl⟩)
          | (go_at_call_of 16 a; refine (wild_any a _ la).mono ?_; rintro e w' ⟨rfl, rfl⟩)
          | (go_at_call_of 16 b; refine (wild_any b _ lb).mono ?_; rintro e w' ⟨rfl, rfl⟩)
          | (go_at_call 17; refine (root_any _ _).mono ?_; rintro e w' ⟨rfl, rfl⟩))
        all_goals (go_ret; exact ⟨rfl, rfl⟩)

theorem wild_walk (a b : ByteArray) (w : World) : Calls Trym.prog 6 #[.string a, .string b] w fun e w' => e = .returned (.bool true) ∧ w' = w := by
  by_cases c1 : (1048576 : Int) < (a.size : Int)
  · exact walk_c1 a b w c1
  by_cases c2 : (1048576 : Int) < (b.size : Int)
  · exact walk_c2 a b w c1 c2
  by_cases c3 : (1048576 : Int) < (a.size : Int) + (b.size : Int)
  · exact walk_c3 a b w c1 c2 c3
  · exact walk_long a b w c1 c2 c3

end Go.Proofs.Qxb6602761aMods.Wild
