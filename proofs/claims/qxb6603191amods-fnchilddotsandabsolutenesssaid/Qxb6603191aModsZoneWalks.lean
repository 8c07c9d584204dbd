/-
  child and the law's helpers: the walks.
-/
import Derived.Test.Qxb6603191aModsZone
import Derived.Deep.LoopGhost
namespace Go.Proofs.Qxb6603191aMods.Zone
open Go.RowKit

theorem root_any (s : ByteArray) (w : World) :
    Calls Trym.prog 7 #[.string s] w fun e w' => e = .returned (.bool (ro s)) ∧ w' = w := by
  have hid : Hid (ro s = (s.toList.isEmpty || s.toList == [46])) := rfl
  go_enter Trym.func7, Trym.ntmps7
  go_wp2
  · rename_i h
    go_ret
    exact ⟨by rw [hid.out]; simp [h], rfl⟩
  · go_ret
    exact ⟨by rw [hid.out]; rfl, rfl⟩

set_option maxHeartbeats 400000 in
theorem child_any (l n : ByteArray) (w : World) (hl : (l.size : Int) ≤ 1048576) (hn : (n.size : Int) ≤ 1048576) :
    Calls Trym.prog 8 #[.string l, .string n] w fun e w' => e = .returned (.string (ch l n)) ∧ w' = w := by
  by_cases h : (n.toList == [46]) = true
  · have e : ch l n = l ++ ⟨#[46]⟩ := by unfold ch; rw [if_pos h]
    rw [e]; clear e
    go_enter Trym.func8, Trym.ntmps8
    go_wp2
    go_ret
    exact ⟨rfl, rfl⟩
  · have e : ch l n = l ++ ⟨#[46]⟩ ++ n := by unfold ch; rw [if_neg h]
    rw [e]; clear e
    have h : (n.toList == [46]) = false := by simpa using h
    go_enter Trym.func8, Trym.ntmps8
    go_wp2
    go_ret
    exact ⟨rfl, rfl⟩

set_option maxHeartbeats 400000 in
theorem bytes4_any (a b c d : ByteArray) (w : World) :
    Calls Trym.prog 5 #[.string a, .string b, .string c, .string d] w fun e w' => ∃ r, e = .returned (.bool r) ∧ w' = w := by
  go_enter Trym.func5, Trym.ntmps5
  go_wp2
  all_goals
    go_ret
    exact ⟨_, rfl, rfl⟩

set_option maxHeartbeats 400000 in
theorem bytes2_any (a b : ByteArray) (w : World) :
    Calls Trym.prog 9 #[.string a, .string b] w fun e w' => ∃ r, e = .returned (.bool r) ∧ w' = w := by
  go_enter Trym.func9, Trym.ntmps9
  go_wp2
  all_goals
    go_ret
    exact ⟨_, rfl, rfl⟩

/-! ### zzNoDot -/
theorem take_snoc (s : ByteArray) (k : Nat) (h : k < s.size) : s.data.toList.take (k + 1) = s.data.toList.take k ++ [s[k]] := by
  rw [List.take_succ_eq_append_getElem (by simpa using h)]; rfl
def ndTo (s : ByteArray) (k : Nat) : Prop := ∀ c ∈ s.data.toList.take k, c ≠ 46
theorem ndTo_next {s : ByteArray} {k : Nat} (hk : k < s.size) (h : ndTo s k) (hne : ((s[k].toNat : Int) == 46) = false) : ndTo s (k + 1) := by
  intro c hc
  rw [take_snoc s k hk] at hc
  rcases List.mem_append.1 hc with h1 | h1
  · exact h c h1
  · rw [List.mem_singleton.1 h1]
    intro e
    rw [e] at hne
    exact absurd hne (by decide)
theorem nd_yes {s : ByteArray} (h : ndTo s s.size) : nd s = true := by
  unfold nd
  rw [List.all_eq_true]
  intro c hc
  have := h c (by rw [List.take_of_length_le (by simp)]; exact hc)
  simpa using this
theorem nd_no {s : ByteArray} {k : Nat} (hk : k < s.size) (he : ((s[k].toNat : Int) == 46) = true) : nd s = false := by
  have e : s[k] = 46 := UInt8.toNat_inj.1 (by have := eq_of_beq he; show s[k].toNat = 46; omega)
  cases hn : nd s
  · rfl
  · have := nd_mem hn s[k] (by rw [Lib.toList_data]; exact Array.getElem_mem_toList _)
    exact absurd e this

theorem ret_bool {a b : Bool} (h : a = b) : Ending.returned (.bool a) = .returned (.bool b) := by rw [h]
theorem ret_int {k : IntKind} {a b : Int} (h : a = b) : Ending.returned (.int k a) = .returned (.int k b) := by rw [h]

set_option maxHeartbeats 400000 in
theorem nodot_any (s : ByteArray) (w : World) (hs : s.size ≤ 1048576) :
    Calls Trym.prog 6 #[.string s] w fun e w' => e = .returned (.bool (nd s)) ∧ w' = w := by
  go_enter Trym.func6, Trym.ntmps6
  go_wp2
  go_loopg [3] s.size (fun g i wr => ∃ k : Nat, k ≤ s.size ∧ g = s.size - k ∧ i = .int .i64 k ∧ ndTo s k ∧ wr = w)
  case atStart => exact ⟨0, Nat.zero_le _, rfl, rfl, fun c hc => by simp at hc, rfl⟩
  case round =>
    obtain ⟨k, hk, rfl, rfl, hI, rfl⟩ := hrel
    by_cases hlt : k < s.size
    · have hl2 : (k : Int) < (s.size : Int) := by omega
      go_wp2
      · rename_i he
        go_ret
        exact ⟨ret_bool (nd_no hlt he).symm, rfl⟩
      · rename_i he
        go_roundg (s.size - (k + 1))
        case measure => omega
        case rel => exact ⟨k + 1, by omega, rfl, by go_num, ndTo_next hlt hI he, rfl⟩
    · have hl2 : ¬ (k : Int) < (s.size : Int) := by omega
      obtain rfl : k = s.size := by omega
      go_wp2
      go_ret
      exact ⟨ret_bool (nd_yes hI).symm, rfl⟩

/-! ### zzCountDots -/
set_option maxHeartbeats 400000 in
theorem count_any (s : ByteArray) (w : World) (hs : s.size ≤ 4194304) :
    Calls Trym.prog 11 #[.string s] w fun e w' => e = .returned (.int .i64 (cd s.data.toList)) ∧ w' = w := by
  go_enter Trym.func11, Trym.ntmps11
  go_wp2
  go_loopg [3, 4] s.size (fun g c i wr => ∃ k : Nat, k ≤ s.size ∧ g = s.size - k ∧ i = .int .i64 k ∧ c = .int .i64 (cd (s.data.toList.take k)) ∧ wr = w)
  case atStart => exact ⟨0, Nat.zero_le _, rfl, rfl, rfl, rfl⟩
  case round =>
    obtain ⟨k, hk, rfl, rfl, rfl, rfl⟩ := hrel
    have hd := cd_bd (s.data.toList.take k)
    have hl : (s.data.toList.take k).length ≤ k := List.length_take_le _ _
    by_cases hlt : k < s.size
    · have hl2 : (k : Int) < (s.size : Int) := by omega
      have HS : Hid (cd (s.data.toList.take (k + 1)) = cd (s.data.toList.take k) + if (s[k].toNat : Int) = 46 then 1 else 0) := by rw [take_snoc s k hlt]; exact cd_snoc _ _
      go_wp2
      · rename_i he
        go_roundg (s.size - (k + 1))
        case measure => omega
        case rel => exact ⟨k + 1, by omega, rfl, by go_num, by rw [HS.out, if_pos (eq_of_beq he)], rfl⟩
      · rename_i he
        go_roundg (s.size - (k + 1))
        case measure => omega
        case rel => exact ⟨k + 1, by omega, rfl, by go_num, by rw [HS.out, if_neg (beq_eq_false_iff_ne.1 he)]; go_num, rfl⟩
    · have hl2 : ¬ (k : Int) < (s.size : Int) := by omega
      obtain rfl : k = s.size := by omega
      go_wp2
      go_ret
      exact ⟨ret_int (by rw [List.take_of_length_le (by simp)]), rfl⟩

/-! ### zzEndsDot -/
theorem ed_none {s : ByteArray} (h : decide (0 < s.size) = false) : ed s = false := by
  have h0 : s.size = 0 := by have := of_decide_eq_false h; omega
  have e : s.data.toList = [] := by
    have : s.data.toList.length = 0 := by rw [← h0]; exact Array.length_toList
    exact List.length_eq_zero_iff.1 this
  unfold ed
  rw [e]
  rfl
theorem ed_some {s : ByteArray} (h : s.size - 1 < s.size) : ((s[s.size - 1].toNat : Int) == 46) = ed s := by
  unfold ed
  have hl : s.data.toList.length = s.size := Array.length_toList
  have e : s.data.toList.getLast? = some s[s.size - 1] := by
    rw [List.getLast?_eq_getElem?, hl, List.getElem?_eq_getElem (by omega)]
    rfl
  rw [e, Bool.eq_iff_iff]
  simp only [beq_iff_eq, Option.some.injEq]
  constructor
  · intro h1
    exact UInt8.toNat_inj.1 (by show _ = 46; omega)
  · intro h1
    rw [h1]
    rfl

set_option maxHeartbeats 400000 in
theorem ends_any (s : ByteArray) (w : World) (hs : s.size ≤ 4194304) :
    Calls Trym.prog 10 #[.string s] w fun e w' => e = .returned (.bool (ed s)) ∧ w' = w := by
  by_cases h0 : s.size = 0
  · have hd : decide (0 < s.size) = false := decide_eq_false (by omega)
    clear h0
    go_enter Trym.func10, Trym.ntmps10
    go_wp2
    go_ret
    exact ⟨ret_bool (ed_none hd).symm, rfl⟩
  · have hd : decide (0 < s.size) = true := decide_eq_true (by omega)
    have hd1 : 0 < s.size := by omega
    have hd2 : (0 : Int) < (s.size : Int) := by omega
    clear h0
    go_enter Trym.func10, Trym.ntmps10
    go_wp2
    go_ret
    exact ⟨ret_bool (ed_some (by omega)), rfl⟩

end Go.Proofs.Qxb6603191aMods.Zone
