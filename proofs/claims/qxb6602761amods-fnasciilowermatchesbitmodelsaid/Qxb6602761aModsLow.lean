/-
  The byte functions and the small loops on the road of FnAsciiLowerMatchesBitModel.
-/
import Derived.Test.Qxb6602761aModsRows
import Derived.WalkKit
import Derived.WalkSpells
import Derived.WalkLawsBesides
import Derived.Deep.OwnRows
import Derived.Deep.LoopGhost
import Derived.Deep.QuietTactic
import Derived.BigQuiet
import Derived.ChangeShapes
namespace Go.Proofs.Qxb6602761aMods.Low
open Go.RowKit

/-! ### The plain functions -/
/-- A capital letter of ASCII made small; every other byte as it is. -/
def low (c : Int) : Int := if 65 ≤ c ∧ c ≤ 90 then c + 32 else c

theorem low_bd {c : Int} (h0 : 0 ≤ c) (h1 : c ≤ 255) : 0 ≤ low c ∧ low c ≤ 255 := by
  unfold low
  split <;> omega
theorem low_in {c : Int} (h0 : 65 ≤ c) (h1 : c ≤ 90) : low c = c + 32 := by unfold low; rw [if_pos ⟨h0, h1⟩]
theorem low_below {c : Int} (h0 : c < 65) : low c = c := by unfold low; rw [if_neg (by omega)]
theorem low_above {c : Int} (h0 : 90 < c) : low c = c := by unfold low; rw [if_neg (by omega)]

theorem fold_table : ∀ n : Fin 256, ((bits .or .u8 (n.val : Int) 32 - 97) % 256 < 26 → bits .or .u8 (n.val : Int) 32 = low n.val) ∧ (26 ≤ (bits .or .u8 (n.val : Int) 32 - 97) % 256 → (n.val : Int) = low n.val) := by
  decide +kernel
theorem fold_yes {c : Int} (h0 : 0 ≤ c) (h1 : c ≤ 255) (h : (bits .or .u8 c 32 - 97) % 256 < 26) : bits .or .u8 c 32 = low c := by
  obtain ⟨n, rfl⟩ := Int.eq_ofNat_of_zero_le h0
  exact (fold_table ⟨n, by omega⟩).1 h
theorem fold_no {c : Int} (h0 : 0 ≤ c) (h1 : c ≤ 255) (h : 26 ≤ (bits .or .u8 c 32 - 97) % 256) : c = low c := by
  obtain ⟨n, rfl⟩ := Int.eq_ofNat_of_zero_le h0
  exact (fold_table ⟨n, by omega⟩).2 h

theorem ret_u8 {a b : Int} (h : a = b) : Ending.returned (.int .u8 a) = .returned (.int .u8 b) := by rw [h]

set_option maxHeartbeats 400000 in
theorem fold_any (c : Int) (h0 : 0 ≤ c) (h1 : c ≤ 255) (w : World) :
    Calls Trym.prog 9 #[.int .u8 c] w fun e w' => e = .returned (.int .u8 (low c)) ∧ w' = w := by
  go_enter Trym.func9, Trym.ntmps9
  go_wp2
  · have h : (bits .or .u8 c 32 - 97) % 256 < 26 := by assumption
    go_ret
    exact ⟨ret_u8 (fold_yes h0 h1 h), rfl⟩
  · have h : 26 ≤ (bits .or .u8 c 32 - 97) % 256 := by assumption
    go_ret
    exact ⟨ret_u8 (fold_no h0 h1 h), rfl⟩

set_option maxHeartbeats 400000 in
set_option maxRecDepth 100000 in
theorem bytes_any (a : Option Addr) (len cap : Nat) (w : World) :
    Calls Trym.prog 7 #[.slice a len cap] w fun e w' => ∃ r, e = .returned (.bool r) ∧ w' = w := by
  go_enter Trym.func7, Trym.ntmps7
  go_wp2
  all_goals
    go_ret
    exact ⟨_, rfl, rfl⟩

theorem info5 : (Trym.prog.info? 5).map (fun i => (i.zero, i.size, i.bytes)) = some (some (.int .u8 0), 1, 1) := by kernel_rfl

/-! ### cloneBytes -/
/-- A row of bytes in block b. -/
abbrev Row (w : World) (b n : Nat) (z : Nat → Int) : Prop := w.rowIs b 5 n (fun i => .int .u8 (z i))

/-- What holds at every round: block B, the first of the call's own, holds the first k bytes; of what was there nothing has turned. -/
structure CL (w : World) (n : Nat) (z : Nat → Int) (k : Nat) (wr : World) : Prop where
  row : Row wr w.heap.size n (fun j => if j < k then z j else 0)
  below : Below w.heap.size w wr
  size : wr.heap.size = w.heap.size + 1

theorem CL.start (w : World) (n : Nat) (z : Nat → Int) : CL w n z 0 (w.alloc (.cells (madeCells #[.int .u8 0] n) 5)) :=
  ⟨(World.rowIs_made w (.int .u8 0) n 5).congr (fun i _ => by simp), (Below.refl _ _).alloc (Nat.le_refl _) _, by simp⟩
theorem CL.step {w : World} {n : Nat} {z : Nat → Int} {k : Nat} {wr : World} (h : CL w n z k wr) : CL w n z (k + 1) (wr.setCell ⟨w.heap.size, k, none⟩ (.int .u8 (z k))) :=
  ⟨(h.row.set k _).congr (fun i _ => by
      by_cases e : i = k
      · subst e; simp
      · rw [if_neg e]
        show Value.int .u8 (if i < k then z i else 0) = .int .u8 (if i < k + 1 then z i else 0)
        by_cases e1 : i < k
        · rw [if_pos e1, if_pos (by omega)]
        · rw [if_neg e1, if_neg (by omega)]),
    h.below.setCell (Nat.le_refl _) _, by rw [Deep.nblk_setCell]; exact h.size⟩

theorem eql_nil (W : World) (a : Option Addr) (n c n' c' : Nat) : (binOp .eql 22 (.slice a n c) (.slice none n' c')).run Trym.prog W = .ok (.bool a.isNone) W := Lib.run_eql_slice_nil W _ _ a n c n' c' Trym.underlying22

theorem clone_nil (w : World) : Calls Trym.prog 8 #[.slice none 0 0] w fun e w' => e = .returned (.slice none 0 0) ∧ w' = w := by
  have q := eql_nil
  go_enter Trym.func8, Trym.ntmps8
  go_wp2
  go_ret
  exact ⟨rfl, rfl⟩

set_option maxHeartbeats 400000 in
theorem clone_any (x : Addr) (len cap : Nat) (z : Nat → Int) (w : World) (hl : len ≤ 1048576) (hc : ∀ i, i < len → w.cell? (x.add i) = some (.int .u8 (z i))) :
    Calls Trym.prog 8 #[.slice (some x) len cap] w fun e w' => e = .returned (.slice (some ⟨w.heap.size, 0, none⟩) len len) ∧ CL w len z len w' := by
  have q := eql_nil
  have hmk := run_make_row' (P := Trym.prog) 22 5 (.int .u8 0) 1 Trym.underlying22 info5 rfl .i64 .i64 len (by omega) (by omega)
  have start := CL.start w len z
  obtain ⟨xb, xo, xs⟩ := x
  by_cases h0 : len = 0
  · have H0 : Hid (len = 0) := h0
    clear hc h0
    go_enter Trym.func8, Trym.ntmps8
    go_wp2
    go_loopg [4] len (fun g i wr => ∃ k : Nat, k ≤ len ∧ g = len - k ∧ i = .int .i64 k ∧ CL w len z k wr)
    case atStart => exact ⟨0, Nat.zero_le _, rfl, rfl, start⟩
    case round =>
      obtain ⟨k, hk, rfl, rfl, hI⟩ := hrel
      clear hmk start q
      have hl2 : ¬ (k : Int) < (len : Int) := by have := H0.out; omega
      obtain rfl : k = len := by omega
      go_wp2
      go_ret
      exact ⟨rfl, hI⟩
  · have hs : xs = none := by simpa [Addr.add] using World.cell?_spot (hc 0 (by omega))
    subst hs
    have hc' : ∀ i, i < len → w.cell? ⟨xb, xo + i, none⟩ = some (.int .u8 (z i)) := fun i hi => by rw [← WideShapes.add_plain]; exact hc i hi
    have hxb : xb < w.heap.size := World.block_lt_of_cell? _ _ (hc' 0 (by omega))
    clear hc
    go_enter Trym.func8, Trym.ntmps8
    go_wp2
    go_loopg [4] len (fun g i wr => ∃ k : Nat, k ≤ len ∧ g = len - k ∧ i = .int .i64 k ∧ CL w len z k wr)
    case atStart => exact ⟨0, Nat.zero_le _, rfl, rfl, start⟩
    case round =>
      obtain ⟨k, hk, rfl, rfl, hI⟩ := hrel
      clear hmk start q
      by_cases hlt : k < len
      · have hl2 : (k : Int) < (len : Int) := by omega
        have c1 : wr.cell? ⟨xb, xo + k, none⟩ = some (.int .u8 (z k)) := by rw [hI.below.cell hxb]; exact hc' k hlt
        have c2 : wr.cell? ⟨w.heap.size, k, none⟩ = some (.int .u8 0) := by simpa using hI.row.cell hlt
        have f2 := hI.row.frozen k
        clear hc'
        go_wp2
        go_roundg (len - (k + 1))
        case measure => omega
        case rel => exact ⟨k + 1, by omega, rfl, by go_num, hI.step⟩
      · have hl2 : ¬ (k : Int) < (len : Int) := by omega
        obtain rfl : k = len := by omega
        clear hc'
        go_wp2
        go_ret
        exact ⟨rfl, hI⟩

end Go.Proofs.Qxb6602761aMods.Low
