/-
  FnChildDotsAndAbsoluteness: the walk.
-/
import Derived.Test.Qxb6603191aModsZoneWalks
import Derived.Deep.RegionWith
namespace Go.Proofs.Qxb6603191aMods.Zone
open Go.RowKit

set_option maxRecDepth 100000 in
set_option maxHeartbeats 400000 in
theorem dots_c1 (l n : ByteArray) (w : World) (c1 : (524288 : Int) < (l.size : Int)) :
    Calls Trym.prog 4 #[.string l, .string n] w fun e w' => e = .returned (.bool true) ∧ w' = w := by
  go_enter Trym.func4, Trym.ntmps4
  go_wp2_with (go_at_call 9; refine (bytes2_any _ _ _).mono ?_; rintro e w' ⟨r, rfl, rfl⟩)
  all_goals (go_ret; exact ⟨rfl, rfl⟩)

set_option maxRecDepth 100000 in
set_option maxHeartbeats 400000 in
theorem dots_c2 (l n : ByteArray) (w : World) (c1 : ¬ (524288 : Int) < (l.size : Int)) (c2 : (524288 : Int) < (n.size : Int)) :
    Calls Trym.prog 4 #[.string l, .string n] w fun e w' => e = .returned (.bool true) ∧ w' = w := by
  go_enter Trym.func4, Trym.ntmps4
  go_wp2_with (go_at_call 9; refine (bytes2_any _ _ _).mono ?_; rintro e w' ⟨r, rfl, rfl⟩)
  all_goals (go_ret; exact ⟨rfl, rfl⟩)

theorem ch_size (l n : ByteArray) : (ch l n).size ≤ l.size + n.size + 1 := by
  have h1 : (⟨#[46]⟩ : ByteArray).size = 1 := rfl
  unfold ch
  split
  · rw [ByteArray.size_append, h1]; omega
  · rw [ByteArray.size_append, ByteArray.size_append, h1]; omega

set_option maxRecDepth 100000 in
set_option maxHeartbeats 1000000 in
theorem dots_long (l n : ByteArray) (w : World) (c1 : ¬ (524288 : Int) < (l.size : Int)) (c2 : ¬ (524288 : Int) < (n.size : Int)) :
    Calls Trym.prog 4 #[.string l, .string n] w fun e w' => e = .returned (.bool true) ∧ w' = w := by
  have hl : (l.size : Int) ≤ 1048576 := by omega
  have hn : (n.size : Int) ≤ 1048576 := by omega
  have hl2 : l.size ≤ 4194304 := by omega
  have hn2 : n.size ≤ 4194304 := by omega
  have hg : (ch l n).size ≤ 4194304 := by have := ch_size l n; omega
  have b1 := cd_bd l.data.toList
  have b2 := cd_bd n.data.toList
  have z1 : l.data.toList.length = l.size := Array.length_toList
  have z2 : n.data.toList.length = n.size := Array.length_toList
  have d1 : 0 ≤ cd l.data.toList := b1.1
  have d2 : cd l.data.toList ≤ 1048576 := by omega
  have d3 : 0 ≤ cd n.data.toList := b2.1
  have d4 : cd n.data.toList ≤ 1048576 := by omega
  have HE : Hid (ed (ch l n) = (n.toList.isEmpty || ed n)) := ed_child l n
  have HC : Hid (cd (ch l n).data.toList = cd l.data.toList + 1 + (if (n.toList == [46]) = true then cd n.data.toList - 1 else cd n.data.toList)) := cd_child l n
  clear b1 b2 z1 z2
  cases em : n.toList.isEmpty <;> cases en : ed n <;> cases dt : n.toList == [46]
  all_goals
    have E1 := HE.out
    have C1 := HC.out
    rw [em, en] at E1
    rw [dt] at C1
    simp only [Bool.or_self, Bool.or_true, Bool.or_false, if_true, if_false, Bool.false_eq_true] at E1 C1
    have C2 : Hid (cd (ch l n).data.toList = _) := C1
    clear HE HC C1
    go_enter Trym.func4, Trym.ntmps4
    go_wp2_with (first
      | (go_at_call 9; refine (bytes2_any _ _ _).mono ?_; rintro e w' ⟨r, rfl, rfl⟩)
      | (go_at_call 8; refine (child_any _ _ _ hl hn).mono ?_; rintro e w' ⟨rfl, rfl⟩)
      | (go_at_call_of 10 (ch l n); refine (ends_any (ch l n) _ hg).mono ?_; rintro e w' ⟨rfl, rfl⟩)
      | (go_at_call_of 10 n; refine (ends_any n _ hn2).mono ?_; rintro e w' ⟨rfl, rfl⟩)
      | (go_at_call_of 11 (ch l n); refine (count_any (ch l n) _ hg).mono ?_; rintro e w' ⟨rfl, rfl⟩)
      | (go_at_call_of 11 l; refine (count_any l _ hl2).mono ?_; rintro e w' ⟨rfl, rfl⟩)
      | (go_at_call_of 11 n; refine (count_any n _ hn2).mono ?_; rintro e w' ⟨rfl, rfl⟩))
    · go_ret
      exact ⟨rfl, rfl⟩
    · go_ret
      exact ⟨ret_bool (beq_iff_eq.2 (by have := C2.out; omega)), rfl⟩

theorem dots_walk (l n : ByteArray) (w : World) : Calls Trym.prog 4 #[.string l, .string n] w fun e w' => e = .returned (.bool true) ∧ w' = w := by
  by_cases c1 : (524288 : Int) < (l.size : Int)
  · exact dots_c1 l n w c1
  by_cases c2 : (524288 : Int) < (n.size : Int)
  · exact dots_c2 l n w c1 c2
  · exact dots_long l n w c1 c2

end Go.Proofs.Qxb6603191aMods.Zone
