/-
  The small functions on the roads of the two AuthOptions laws: each walked once.
-/
import Derived.Test.Qxb6602433aModsPtr
import Derived.WalkKit
import Derived.WalkSpells
import Derived.WalkLawsBesides
namespace Go.Proofs.Qxb6602433aMods.Auth
open Go.RowKit

/-- A pointer to a bool that may be read: nil, or the address of a cell that holds a bool. -/
def PB (w : World) (p : Option Addr) : Prop := p = none ∨ ∃ b o x, p = some ⟨b, o, none⟩ ∧ w.cell? ⟨b, o, none⟩ = some (.bool x)
/-- A pointer to a string that may be read. -/
def PS (w : World) (p : Option Addr) : Prop := p = none ∨ ∃ b o x, p = some ⟨b, o, none⟩ ∧ w.cell? ⟨b, o, none⟩ = some (.string x)

/-- What a pointer to a bool holds; false at nil. -/
def bv (w : World) (p : Option Addr) : Bool := match p with
  | none => false
  | some a => match w.cell? a with
    | some (.bool x) => x
    | _ => false
/-- What a pointer to a string holds; the empty string at nil. -/
def sv (w : World) (p : Option Addr) : ByteArray := match p with
  | none => ByteArray.empty
  | some a => match w.cell? a with
    | some (.string x) => x
    | _ => ByteArray.empty

theorem valBool_any (p : Option Addr) (w : World) (h : PB w p) :
    Calls Trym.prog 23 #[.pointer p] w fun e w' => e = .returned (.bool (bv w p)) ∧ w' = w := by
  rcases h with rfl | ⟨b, o, x, rfl, hc⟩
  · have e : bv w none = false := rfl
    rw [e]; clear e
    go_enter Trym.func23, Trym.ntmps23
    go_wp2
    go_ret
    exact ⟨rfl, rfl⟩
  · have e : bv w (some ⟨b, o, none⟩) = x := by simp [bv, hc]
    rw [e]; clear e
    go_enter Trym.func23, Trym.ntmps23
    go_wp2
    go_ret
    exact ⟨rfl, rfl⟩

theorem valStr_any (p : Option Addr) (w : World) (h : PS w p) :
    Calls Trym.prog 24 #[.pointer p] w fun e w' => e = .returned (.string (sv w p)) ∧ w' = w := by
  rcases h with rfl | ⟨b, o, x, rfl, hc⟩
  · have e : sv w none = ByteArray.empty := rfl
    rw [e]; clear e
    go_enter Trym.func24, Trym.ntmps24
    go_wp2
    go_ret
    exact ⟨rfl, rfl⟩
  · have e : sv w (some ⟨b, o, none⟩) = x := by simp [sv, hc]
    rw [e]; clear e
    go_enter Trym.func24, Trym.ntmps24
    go_wp2
    go_ret
    exact ⟨rfl, rfl⟩

theorem lenStr_any (p : Option Addr) (w : World) (h : PS w p) :
    Calls Trym.prog 20 #[.pointer p] w fun e w' => e = .returned (.int .i64 (sv w p).size) ∧ w' = w := by
  rcases h with rfl | ⟨b, o, x, rfl, hc⟩
  · have e : sv w none = ByteArray.empty := rfl
    rw [e]; clear e
    go_enter Trym.func20, Trym.ntmps20
    go_wp2
    go_ret
    exact ⟨rfl, rfl⟩
  · have e : sv w (some ⟨b, o, none⟩) = x := by simp [sv, hc]
    rw [e]; clear e
    go_enter Trym.func20, Trym.ntmps20
    go_wp2
    go_ret
    exact ⟨rfl, rfl⟩

theorem keptBool_any (p : Option Addr) (v : Bool) (w : World) (h : PB w p) (hv : bv w p = v) :
    Calls Trym.prog 30 #[.pointer p, .bool v] w fun e w' => e = .returned (.bool true) ∧ w' = w := by
  subst hv
  rcases h with rfl | ⟨b, o, x, rfl, hc⟩
  · have e : bv w none = false := rfl
    rw [e]; clear e
    go_enter Trym.func30, Trym.ntmps30
    go_wp2
    go_ret
    exact ⟨rfl, rfl⟩
  · have e : bv w (some ⟨b, o, none⟩) = x := by simp [bv, hc]
    rw [e]; clear e
    go_enter Trym.func30, Trym.ntmps30
    go_wp2
    go_ret
    exact ⟨rfl, rfl⟩

theorem keptStr_any (p : Option Addr) (v : ByteArray) (w : World) (h : PS w p) (hv : sv w p = v) :
    Calls Trym.prog 31 #[.pointer p, .string v] w fun e w' => e = .returned (.bool true) ∧ w' = w := by
  subst hv
  rcases h with rfl | ⟨b, o, x, rfl, hc⟩
  · have e : sv w none = ByteArray.empty := rfl
    rw [e]; clear e
    go_enter Trym.func31, Trym.ntmps31
    go_wp2
    go_ret
    exact ⟨rfl, rfl⟩
  · have e : sv w (some ⟨b, o, none⟩) = x := by simp [sv, hc]
    rw [e]; clear e
    go_enter Trym.func31, Trym.ntmps31
    go_wp2
    go_ret
    exact ⟨rfl, rfl⟩

/-- What a copy is: nil where the source is nil, else the address of a cell that holds x. -/
theorem copiedBool_any (q p : Option Addr) (v : Bool) (w : World) (h : (p = none ∧ q = none) ∨ ∃ a b o, p = some a ∧ q = some ⟨b, o, none⟩ ∧ w.cell? ⟨b, o, none⟩ = some (.bool v)) :
    Calls Trym.prog 26 #[.pointer q, .pointer p, .bool v] w fun e w' => e = .returned (.bool true) ∧ w' = w := by
  rcases h with ⟨rfl, rfl⟩ | ⟨a, b, o, rfl, rfl, hc⟩
  · go_enter Trym.func26, Trym.ntmps26
    go_wp2
    go_ret
    exact ⟨rfl, rfl⟩
  · go_enter Trym.func26, Trym.ntmps26
    go_wp2
    go_ret
    exact ⟨rfl, rfl⟩

theorem copiedStr_any (q p : Option Addr) (v : ByteArray) (w : World) (h : (p = none ∧ q = none) ∨ ∃ a b o, p = some a ∧ q = some ⟨b, o, none⟩ ∧ w.cell? ⟨b, o, none⟩ = some (.string v)) :
    Calls Trym.prog 27 #[.pointer q, .pointer p, .string v] w fun e w' => e = .returned (.bool true) ∧ w' = w := by
  rcases h with ⟨rfl, rfl⟩ | ⟨a, b, o, rfl, rfl, hc⟩
  · go_enter Trym.func27, Trym.ntmps27
    go_wp2
    go_ret
    exact ⟨rfl, rfl⟩
  · go_enter Trym.func27, Trym.ntmps27
    go_wp2
    go_ret
    exact ⟨rfl, rfl⟩

theorem zeroedBool_any (q p : Option Addr) (w : World) (h : (p = none ∧ q = none) ∨ ∃ a b o, p = some a ∧ q = some ⟨b, o, none⟩ ∧ w.cell? ⟨b, o, none⟩ = some (.bool false)) :
    Calls Trym.prog 33 #[.pointer q, .pointer p] w fun e w' => e = .returned (.bool true) ∧ w' = w := by
  rcases h with ⟨rfl, rfl⟩ | ⟨a, b, o, rfl, rfl, hc⟩
  · go_enter Trym.func33, Trym.ntmps33
    go_wp2
    go_ret
    exact ⟨rfl, rfl⟩
  · go_enter Trym.func33, Trym.ntmps33
    go_wp2
    go_ret
    exact ⟨rfl, rfl⟩

theorem zeroedStr_any (q p : Option Addr) (w : World) (h : (p = none ∧ q = none) ∨ ∃ a b o, p = some a ∧ q = some ⟨b, o, none⟩ ∧ w.cell? ⟨b, o, none⟩ = some (.string ByteArray.empty)) :
    Calls Trym.prog 34 #[.pointer q, .pointer p] w fun e w' => e = .returned (.bool true) ∧ w' = w := by
  rcases h with ⟨rfl, rfl⟩ | ⟨a, b, o, rfl, rfl, hc⟩
  · go_enter Trym.func34, Trym.ntmps34
    go_wp2
    go_ret
    exact ⟨rfl, rfl⟩
  · go_enter Trym.func34, Trym.ntmps34
    go_wp2
    go_ret
    exact ⟨rfl, rfl⟩

theorem freshBool_any (q a b : Option Addr) (w : World) (h : q = none ∨ ∃ c cs ct, q = some ⟨c, 0, none⟩ ∧ w.heap[c]? = some (.cells cs ct (0, 0)) ∧ Apart w c a ∧ Apart w c b) :
    Calls Trym.prog 28 #[.pointer q, .pointer a, .pointer b] w fun e w' => e = .returned (.bool true) ∧ w' = w := by
  rcases h with rfl | ⟨c, cs, ct, rfl, hc, ha, hb⟩
  · go_enter Trym.func28, Trym.ntmps28
    go_wp2
    go_ret
    exact ⟨rfl, rfl⟩
  · have ea := run_neq_fresh w Trym.underlying36 info4 hc a ha
    have eb := run_neq_fresh w Trym.underlying36 info4 hc b hb
    clear hc ha hb
    go_enter Trym.func28, Trym.ntmps28
    go_wp2
    go_ret
    exact ⟨rfl, rfl⟩

theorem freshStr_any (q a b c d : Option Addr) (w : World) (h : q = none ∨ ∃ k cs ct, q = some ⟨k, 0, none⟩ ∧ w.heap[k]? = some (.cells cs ct (0, 0)) ∧ Apart w k a ∧ Apart w k b ∧ Apart w k c ∧ Apart w k d) :
    Calls Trym.prog 29 #[.pointer q, .pointer a, .pointer b, .pointer c, .pointer d] w fun e w' => e = .returned (.bool true) ∧ w' = w := by
  rcases h with rfl | ⟨k, cs, ct, rfl, hc, ha, hb, hcc, hd⟩
  · go_enter Trym.func29, Trym.ntmps29
    go_wp2
    go_ret
    exact ⟨rfl, rfl⟩
  · have ea := run_neq_fresh w Trym.underlying37 info9 hc a ha
    have eb := run_neq_fresh w Trym.underlying37 info9 hc b hb
    have ec := run_neq_fresh w Trym.underlying37 info9 hc c hcc
    have ed := run_neq_fresh w Trym.underlying37 info9 hc d hd
    clear hc ha hb hcc hd
    go_enter Trym.func29, Trym.ntmps29
    go_wp2
    go_ret
    exact ⟨rfl, rfl⟩

end Go.Proofs.Qxb6602433aMods.Auth
