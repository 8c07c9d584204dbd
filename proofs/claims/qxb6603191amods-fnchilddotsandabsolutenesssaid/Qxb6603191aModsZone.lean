/-
  child and the law's helpers: what they compute, and the plain laws.
-/
import Derived.Test.Qxb6603191aModsRows
import Derived.WalkKit
import Derived.WalkSpells
import Derived.WalkLawsBesides
import Derived.Lib.Strings
namespace Go.Proofs.Qxb6603191aMods.Zone
open Go.RowKit

/-! ### The plain functions -/
def ch (l n : ByteArray) : ByteArray := if n.toList == [46] then l ++ ⟨#[46]⟩ else l ++ ⟨#[46]⟩ ++ n
def ro (s : ByteArray) : Bool := s.toList.isEmpty || s.toList == [46]
/-- No dot among the bytes. -/
def nd (s : ByteArray) : Bool := s.data.toList.all fun c => c != 46
/-- How many dots. -/
def cd (l : List UInt8) : Int := (l.filter fun c => c == 46).length
/-- The last byte is a dot. -/
def ed (s : ByteArray) : Bool := s.data.toList.getLast? == some 46
/-- What child lays behind its own dot. -/
def tl (n : ByteArray) : List UInt8 := if n.toList == [46] then [] else n.toList

theorem toList_append (a b : ByteArray) : (a ++ b).toList = a.toList ++ b.toList := by
  simp [Lib.toList_data, ByteArray.data_append]
theorem toList_inj {a b : ByteArray} (h : a.toList = b.toList) : a = b := by
  rw [Lib.toList_data, Lib.toList_data] at h
  exact WideShapes.bytes_inj h
theorem ch_list (l n : ByteArray) : (ch l n).toList = l.toList ++ 46 :: tl n := by
  unfold ch tl
  split
  · rw [toList_append]
    simp [Lib.toList_data]
  · rw [toList_append, toList_append]
    simp [Lib.toList_data]

theorem tl_nil {n : ByteArray} (h : ro n = true) : tl n = [] := by
  unfold tl
  unfold ro at h
  split
  · rfl
  · rename_i h1
    simp only [Bool.or_eq_true, List.isEmpty_iff] at h
    rcases h with h | h
    · exact h
    · exact absurd h h1
theorem ro_of_tl {n : ByteArray} (h : tl n = []) : ro n = true := by
  unfold tl at h
  unfold ro
  split at h
  · rename_i h1; simp [h1]
  · simp [h]
theorem tl_inj {a b : ByteArray} (h : tl a = tl b) : a.toList = b.toList ∨ (ro a = true ∧ ro b = true) := by
  by_cases ha : (a.toList == [46]) = true
  · have h0 : tl a = [] := by unfold tl; rw [if_pos ha]
    exact .inr ⟨ro_of_tl h0, ro_of_tl (h ▸ h0)⟩
  · by_cases hb : (b.toList == [46]) = true
    · have h0 : tl b = [] := by unfold tl; rw [if_pos hb]
      exact .inr ⟨ro_of_tl (h.trans h0), ro_of_tl h0⟩
    · left
      unfold tl at h
      rw [if_neg ha, if_neg hb] at h
      exact h

/-! ### When two children are one -/
theorem same_root {l a b : ByteArray} (ha : ro a = true) (hb : ro b = true) : ((ch l a).toList == (ch l b).toList) = true := by
  rw [ch_list, ch_list, tl_nil ha, tl_nil hb]
  simp
theorem differ_name {l a b : ByteArray} (hne : (a.toList == b.toList) = false) (h : ¬ (ro a = true ∧ ro b = true)) : ((ch l a).toList == (ch l b).toList) = false := by
  rw [beq_eq_false_iff_ne] at hne ⊢
  rw [ch_list, ch_list]
  intro he
  have he := List.append_cancel_left he
  simp only [List.cons.injEq, true_and] at he
  rcases tl_inj he with h1 | h1
  · exact hne h1
  · exact h h1
theorem differ_label_same {k l n : ByteArray} (hne : (k.toList == l.toList) = false) : ((ch k n).toList == (ch l n).toList) = false := by
  rw [beq_eq_false_iff_ne] at hne ⊢
  rw [ch_list, ch_list]
  intro he
  exact hne (List.append_cancel_right he)
theorem differ_label_root {k l a b : ByteArray} (hne : (k.toList == l.toList) = false) (ha : ro a = true) (hb : ro b = true) : ((ch k a).toList == (ch l b).toList) = false := by
  rw [beq_eq_false_iff_ne] at hne ⊢
  rw [ch_list, ch_list, tl_nil ha, tl_nil hb]
  intro he
  exact hne (List.append_cancel_right he)
theorem split_dot : ∀ (a b x y : List UInt8), (∀ c ∈ a, c ≠ 46) → (∀ c ∈ b, c ≠ 46) → a ++ 46 :: x = b ++ 46 :: y → a = b
  | [], [], _, _, _, _, _ => rfl
  | [], c :: b, x, y, _, hb, h => by
    simp only [List.nil_append, List.cons_append, List.cons.injEq] at h
    exact absurd h.1.symm (hb c (by simp))
  | c :: a, [], x, y, ha, _, h => by
    simp only [List.nil_append, List.cons_append, List.cons.injEq] at h
    exact absurd h.1 (ha c (by simp))
  | c :: a, d :: b, x, y, ha, hb, h => by
    simp only [List.cons_append, List.cons.injEq] at h
    rw [h.1, split_dot a b x y (fun e he => ha e (by simp [he])) (fun e he => hb e (by simp [he])) h.2]
theorem nd_mem {s : ByteArray} (h : nd s = true) : ∀ c ∈ s.toList, c ≠ 46 := by
  intro c hc
  rw [Lib.toList_data] at hc
  unfold nd at h
  have := List.all_eq_true.1 h c hc
  simpa using this
theorem differ_label_nodot {k l a b : ByteArray} (hne : (k.toList == l.toList) = false) (hk : nd k = true) (hl : nd l = true) : ((ch k a).toList == (ch l b).toList) = false := by
  rw [beq_eq_false_iff_ne] at hne ⊢
  rw [ch_list, ch_list]
  intro he
  exact hne (split_dot _ _ _ _ (nd_mem hk) (nd_mem hl) he)

/-! ### Dots and ends -/
theorem cd_append (a b : List UInt8) : cd (a ++ b) = cd a + cd b := by
  unfold cd
  rw [List.filter_append, List.length_append]
  omega
theorem cd_bd (l : List UInt8) : 0 ≤ cd l ∧ cd l ≤ l.length := by
  unfold cd
  have := List.length_filter_le (fun c : UInt8 => c == 46) l
  omega
theorem cd_snoc (l : List UInt8) (c : UInt8) : cd (l ++ [c]) = cd l + if (c.toNat : Int) = 46 then 1 else 0 := by
  rw [cd_append]
  unfold cd
  by_cases h : (c.toNat : Int) = 46
  · have : c = 46 := UInt8.toNat_inj.1 (by show c.toNat = 46; omega)
    subst this
    rfl
  · have : (c == 46) = false := by
      rw [beq_eq_false_iff_ne]
      rintro rfl
      exact h rfl
    simp [this, h]
theorem cd_child (l n : ByteArray) : cd (ch l n).data.toList = cd l.data.toList + 1 + (if (n.toList == [46]) = true then cd n.data.toList - 1 else cd n.data.toList) := by
  rw [← Lib.toList_data, ch_list, cd_append, Lib.toList_data]
  have h : ∀ x, cd (46 :: x) = 1 + cd x := fun x => cd_append [46] x
  rw [h]
  unfold tl
  by_cases hn : (n.toList == [46]) = true
  · rw [if_pos hn, if_pos hn, ← Lib.toList_data n, eq_of_beq hn]
    rfl
  · rw [if_neg hn, if_neg hn, Lib.toList_data]
    omega
theorem ed_child (l n : ByteArray) : ed (ch l n) = (n.toList.isEmpty || ed n) := by
  unfold ed
  rw [← Lib.toList_data, ch_list, ← Lib.toList_data n, List.getLast?_append]
  unfold tl
  by_cases hn : (n.toList == [46]) = true
  · rw [if_pos hn, eq_of_beq hn]
    rfl
  · rw [if_neg hn]
    cases h : n.toList with
    | nil => rfl
    | cons c t =>
      rw [List.getLast?_cons_cons]
      simp [List.getLast?_cons]

end Go.Proofs.Qxb6603191aMods.Zone
