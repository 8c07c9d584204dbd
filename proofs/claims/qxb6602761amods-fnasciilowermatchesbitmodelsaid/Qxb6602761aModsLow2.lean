/-
  asciiLower in place, and eqBytes.
-/
import Derived.Test.Qxb6602761aModsLow
namespace Go.Proofs.Qxb6602761aMods.Low
open Go.RowKit

/-! ### asciiLower -/
/-- Only block b may have turned. -/
structure Only (b : Nat) (w w' : World) : Prop where
  os : w'.os = w.os
  tape : w'.tape = w.tape
  output : w'.output = w.output
  size : w'.heap.size = w.heap.size
  block : ∀ k, k ≠ b → w'.heap[k]? = w.heap[k]?

theorem Only.refl (b : Nat) (w : World) : Only b w w := ⟨rfl, rfl, rfl, rfl, fun _ _ => rfl⟩
theorem Only.setCell {b : Nat} {w w' : World} (h : Only b w w') (i : Nat) (v : Value) : Only b w (w'.setCell ⟨b, i, none⟩ v) :=
  ⟨h.os, h.tape, h.output, by rw [Deep.nblk_setCell]; exact h.size, fun k hk => by rw [Deep.blk_setCell_other _ _ _ _ hk]; exact h.block k hk⟩
theorem Only.below {b : Nat} {w w' : World} (h : Only b w w') {B : Nat} (hB : B ≤ b) : Below B w w' :=
  ⟨h.os, h.tape, h.output, by rw [h.size]; exact Nat.le_refl _, fun k hk => h.block k (by omega)⟩
theorem Only.row {b : Nat} {w w' : World} (h : Only b w w') {c n : Nat} {z : Nat → Int} (hc : c ≠ b) (hr : Row w c n z) : Row w' c n z := hr.of_block (h.block c hc)

/-- What holds at every round of asciiLower. -/
structure LW (w : World) (b n : Nat) (z : Nat → Int) (k : Nat) (wr : World) : Prop where
  row : Row wr b n (fun j => if j < k then low (z j) else z j)
  only : Only b w wr

theorem LW.start {w : World} {b n : Nat} {z : Nat → Int} (h : Row w b n z) : LW w b n z 0 w := ⟨h.congr (fun i _ => by simp), Only.refl _ _⟩
theorem LW.set {w : World} {b n : Nat} {z : Nat → Int} {k : Nat} {wr : World} (h : LW w b n z k wr) {u : Int} (hu : u = low (z k)) : LW w b n z (k + 1) (wr.setCell ⟨b, k, none⟩ (.int .u8 u)) :=
  ⟨(h.row.set k _).congr (fun i _ => by
      by_cases e : i = k
      · subst e; simp [hu]
      · rw [if_neg e]
        show Value.int .u8 (if i < k then low (z i) else z i) = .int .u8 (if i < k + 1 then low (z i) else z i)
        by_cases e1 : i < k
        · rw [if_pos e1, if_pos (by omega)]
        · rw [if_neg e1, if_neg (by omega)]),
    h.only.setCell _ _⟩
theorem LW.keep {w : World} {b n : Nat} {z : Nat → Int} {k : Nat} {wr : World} (h : LW w b n z k wr) (hu : low (z k) = z k) : LW w b n z (k + 1) wr :=
  ⟨h.row.congr (fun i _ => by
      show Value.int .u8 (if i < k then low (z i) else z i) = .int .u8 (if i < k + 1 then low (z i) else z i)
      by_cases e : i = k
      · subst e; rw [if_neg (by omega), if_pos (by omega), hu]
      · by_cases e1 : i < k
        · rw [if_pos e1, if_pos (by omega)]
        · rw [if_neg e1, if_neg (by omega)]),
    h.only⟩
theorem LW.done {w : World} {b n : Nat} {z : Nat → Int} {wr : World} (h : LW w b n z n wr) : Row wr b n (fun j => low (z j)) :=
  h.row.congr (fun i hi => by show Value.int .u8 (if i < n then low (z i) else z i) = _; rw [if_pos hi])

theorem lower_nil (w : World) : Calls Trym.prog 10 #[.slice none 0 0] w fun e w' => e = .returned (.slice none 0 0) ∧ w' = w := by
  go_enter Trym.func10, Trym.ntmps10
  go_wp2
  go_loopg [7] 0 (fun g i wr => i = .int .i64 0 ∧ wr = w)
  case atStart => exact ⟨rfl, rfl⟩
  case round =>
    obtain ⟨rfl, rfl⟩ := hrel
    go_wp2
    go_ret
    exact ⟨rfl, rfl⟩

set_option maxHeartbeats 400000 in
theorem lower_any (b n : Nat) (z : Nat → Int) (w : World) (hn : n ≤ 1048576) (hb : ∀ i, i < n → 0 ≤ z i ∧ z i ≤ 255) (hr : Row w b n z) :
    Calls Trym.prog 10 #[.slice (some ⟨b, 0, none⟩) n n] w fun e w' => e = .returned (.slice (some ⟨b, 0, none⟩) n n) ∧ LW w b n z n w' := by
  have start := LW.start hr
  go_enter Trym.func10, Trym.ntmps10
  go_wp2
  go_loopg [7] n (fun g i wr => ∃ k : Nat, k ≤ n ∧ g = n - k ∧ i = .int .i64 k ∧ LW w b n z k wr)
  case atStart => exact ⟨0, Nat.zero_le _, rfl, rfl, start⟩
  case round =>
    obtain ⟨k, hk, rfl, rfl, hI⟩ := hrel
    clear start hr
    by_cases hlt : k < n
    · have hl2 : (k : Int) < (n : Int) := by omega
      have c1 : wr.cell? ⟨b, k, none⟩ = some (.int .u8 (z k)) := by simpa using hI.row.cell hlt
      have f1 := hI.row.frozen k
      obtain ⟨z0, z1⟩ := hb k hlt
      by_cases h1 : z k < 65
      · have hh := low_below h1
        have hstep := hI.keep hh
        clear hh
        go_wp2
        go_roundg (n - (k + 1))
        case measure => omega
        case rel => exact ⟨k + 1, by omega, rfl, by go_num, hstep⟩
      · by_cases h2 : 90 < z k
        · have hh := low_above h2
          have hstep := hI.keep hh
          clear hh
          go_wp2
          go_roundg (n - (k + 1))
          case measure => omega
          case rel => exact ⟨k + 1, by omega, rfl, by go_num, hstep⟩
        · have g1 : 65 ≤ z k := by omega
          have g2 : z k ≤ 90 := by omega
          have hstep := hI.set (u := z k + 97 - 65) (by rw [low_in g1 g2]; omega)
          go_wp2
          go_roundg (n - (k + 1))
          case measure => omega
          case rel => exact ⟨k + 1, by omega, rfl, by go_num, hstep⟩
    · have hl2 : ¬ (k : Int) < (n : Int) := by omega
      obtain rfl : k = n := by omega
      go_wp2
      go_ret
      exact ⟨rfl, hI⟩

/-! ### eqBytes -/
theorem eq_nil (x : Option Addr) (w : World) : Calls Trym.prog 11 #[.slice none 0 0, .slice x 0 0] w fun e w' => e = .returned (.bool true) ∧ w' = w := by
  go_enter Trym.func11, Trym.ntmps11
  go_wp2
  go_loopg [5] 0 (fun g i wr => i = .int .i64 0 ∧ wr = w)
  case atStart => exact ⟨rfl, rfl⟩
  case round =>
    obtain ⟨rfl, rfl⟩ := hrel
    go_wp2
    go_ret
    exact ⟨rfl, rfl⟩

set_option maxHeartbeats 400000 in
theorem eq_any (b c n : Nat) (z : Nat → Int) (w : World) (hn : n ≤ 1048576) (hb : Row w b n z) (hc : Row w c n z) :
    Calls Trym.prog 11 #[.slice (some ⟨b, 0, none⟩) n n, .slice (some ⟨c, 0, none⟩) n n] w fun e w' => e = .returned (.bool true) ∧ ∃ m, w' = w.drewN m := by
  go_enter Trym.func11, Trym.ntmps11
  go_wp2
  go_loopg [5] n (fun g i wr => ∃ k : Nat, k ≤ n ∧ g = n - k ∧ i = .int .i64 k ∧ ∃ m, wr = w.drewN m)
  case atStart => exact ⟨0, Nat.zero_le _, rfl, rfl, 0, rfl⟩
  case round =>
    obtain ⟨k, hk, rfl, rfl, m, rfl⟩ := hrel
    by_cases hlt : k < n
    · have hl2 : (k : Int) < (n : Int) := by omega
      have c1 := hb.cell hlt
      have c2 := hc.cell hlt
      clear hb hc
      go_wp2
      go_quiet (fail)
      go_wp2
      go_roundg (n - (k + 1))
      case measure => omega
      case rel => exact ⟨k + 1, by omega, rfl, by go_num, _, rfl⟩
    · have hl2 : ¬ (k : Int) < (n : Int) := by omega
      clear hb hc
      go_wp2
      go_ret
      exact ⟨rfl, m, rfl⟩

end Go.Proofs.Qxb6602761aMods.Low
