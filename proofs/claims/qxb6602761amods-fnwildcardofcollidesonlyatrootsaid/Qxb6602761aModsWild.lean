/-
  wildcardOf and isRootOrEmpty: what they compute, and the plain law.
-/
import Derived.Test.Qxb6602761aModsRows
import Derived.WalkKit
import Derived.WalkSpells
import Derived.WalkLawsBesides
import Derived.Lib.Strings
namespace Go.Proofs.Qxb6602761aMods.Wild
open Go.RowKit

/-! ### The plain functions -/
def wc (s : ByteArray) : ByteArray := if s.toList == [46] then ⟨#[42, 46]⟩ else ⟨#[42, 46]⟩ ++ s
def rt (s : ByteArray) : Bool := s.toList.isEmpty || s.toList == [46]

theorem toList_append (a b : ByteArray) : (a ++ b).toList = a.toList ++ b.toList := by
  simp [Lib.toList_data, ByteArray.data_append]
theorem toList_inj {a b : ByteArray} (h : a.toList = b.toList) : a = b := by
  rw [Lib.toList_data, Lib.toList_data] at h
  exact WideShapes.bytes_inj h
theorem wc_list (s : ByteArray) : (wc s).toList = [42, 46] ++ (if s.toList == [46] then [] else s.toList) := by
  unfold wc
  split
  · simp [Lib.toList_data]
  · rw [toList_append]
    simp [Lib.toList_data]

/-- Two wildcards are equal where both enclosers are the root or empty. -/
theorem wc_both {a b : ByteArray} (ha : rt a = true) (hb : rt b = true) : ((wc a).toList == (wc b).toList) = true := by
  have h : ∀ s, rt s = true → (wc s).toList = [42, 46] := by
    intro s hs
    rw [wc_list]
    unfold rt at hs
    split
    · rfl
    · rename_i h1
      simp only [Bool.or_eq_true, List.isEmpty_iff] at hs
      rcases hs with hs | hs
      · rw [hs]; rfl
      · exact absurd hs h1
  rw [h a ha, h b hb]
  rfl
/-- .. and are not, where the enclosers differ and one of them is neither. -/
theorem wc_not {a b : ByteArray} (hne : (a.toList == b.toList) = false) (h : ¬ (rt a = true ∧ rt b = true)) : ((wc a).toList == (wc b).toList) = false := by
  rw [wc_list, wc_list]
  rw [beq_eq_false_iff_ne] at hne ⊢
  intro he
  have he := List.append_cancel_left he
  have hr : ∀ s : ByteArray, (if s.toList == [46] then [] else s.toList) = [] → rt s = true := by
    intro s hs
    unfold rt
    split at hs
    · rename_i h1; simp [h1]
    · simp [hs]
  by_cases ha : (a.toList == [46]) = true
  · rw [if_pos ha] at he
    refine h ⟨hr a (by rw [if_pos ha]), hr b he.symm⟩
  · by_cases hb : (b.toList == [46]) = true
    · rw [if_pos hb] at he
      exact h ⟨hr a he, hr b (by rw [if_pos hb])⟩
    · rw [if_neg ha, if_neg hb] at he
      exact hne he

/-! ### The walks -/
set_option maxHeartbeats 400000 in
theorem wild_any (s : ByteArray) (w : World) (hs : (s.size : Int) ≤ 1048576) :
    Calls Trym.prog 16 #[.string s] w fun e w' => e = .returned (.string (wc s)) ∧ w' = w := by
  by_cases h : (s.toList == [46]) = true
  · have e : wc s = ⟨#[42, 46]⟩ := by unfold wc; rw [if_pos h]
    rw [e]; clear e
    go_enter Trym.func16, Trym.ntmps16
    go_wp2
    go_ret
    exact ⟨rfl, rfl⟩
  · have e : wc s = ⟨#[42, 46]⟩ ++ s := by unfold wc; rw [if_neg h]
    rw [e]; clear e
    have h : (s.toList == [46]) = false := by simpa using h
    go_enter Trym.func16, Trym.ntmps16
    go_wp2
    go_ret
    exact ⟨rfl, rfl⟩

theorem root_any (s : ByteArray) (w : World) :
    Calls Trym.prog 17 #[.string s] w fun e w' => e = .returned (.bool (rt s)) ∧ w' = w := by
  have hid : Hid (rt s = (s.toList.isEmpty || s.toList == [46])) := rfl
  go_enter Trym.func17, Trym.ntmps17
  go_wp2
  · rename_i h
    go_ret
    exact ⟨by rw [hid.out]; simp [h], rfl⟩
  · go_ret
    exact ⟨by rw [hid.out]; rfl, rfl⟩

set_option maxHeartbeats 400000 in
theorem bytes_any (a b : ByteArray) (w : World) :
    Calls Trym.prog 15 #[.string a, .string b] w fun e w' => ∃ r, e = .returned (.bool r) ∧ w' = w := by
  go_enter Trym.func15, Trym.ntmps15
  go_wp2
  all_goals
    go_ret
    exact ⟨_, rfl, rfl⟩

end Go.Proofs.Qxb6602761aMods.Wild
