/-
  FnAsciiLowerMatchesBitModel: the walk.
-/
import Derived.Test.Qxb6602761aModsLow2
import Derived.LaidEqlPtr
namespace Go.Proofs.Qxb6602761aMods.Low
open Go.RowKit

theorem neq_self (W : World) (a : Addr) : (binOp .neq 26 (.pointer (some a)) (.pointer (some a))).run Trym.prog W = .ok (.bool false) W := by
  have hj : ∃ j, Trym.prog.info? 5 = some j := by
    have h : (Trym.prog.info? 5).isSome = true := by kernel_rfl
    exact Option.isSome_iff_exists.1 h
  obtain ⟨j, hj⟩ := hj
  have h : ∀ d : Nat, (Op.equalIn (d + 1) 26 (.pointer (some a)) (.pointer (some a))).run Trym.prog W = .ok true W := fun d => by
    simp [Op.equalIn, run_underlying Trym.underlying26, sizeOf, typeInfo, hj, run_sameAddr_same]
  simp only [binOp]
  simp [Op.equal, Op.maxDepth, h 9999]

theorem make0 (W : World) : (Instr.makeSlice 22 (.int .i64 0) (.int .i64 0)).run Trym.prog W = .ok (.slice (some ⟨W.heap.size, 0, none⟩) 0 0) (W.alloc (.cells (madeCells #[.int .u8 0] 0) 5)) :=
  run_make_row' (P := Trym.prog) 22 5 (.int .u8 0) 1 Trym.underlying22 info5 rfl .i64 .i64 0 (by omega) (by omega) W

theorem below_drewN {B : Nat} {w w' : World} (h : Below B w w') (n : Nat) : Below B w (w'.drewN n) := ⟨h.os, h.tape, h.output, h.size, h.block⟩

set_option maxHeartbeats 400000 in
theorem law_nil (w : World) : Calls Trym.prog 3 #[.slice none 0 0] w fun e w' => e = .returned (.bool true) ∧ Below w.heap.size w w' := by
  have q := eql_nil
  have hmk := make0
  go_enter Trym.func3, Trym.ntmps3
  go_wp2_with (first
    | (go_at_call 7; refine (bytes_any _ _ _ _).mono ?_; rintro e w' ⟨r, rfl, rfl⟩)
    | (go_at_call 8; refine (clone_nil _).mono ?_; rintro e w' ⟨rfl, rfl⟩))
  · go_ret
    exact ⟨rfl, Below.refl _ _⟩
  · have B1 : Below w'.heap.size w' (w'.alloc (.cells (madeCells #[.int .u8 0] 0) 5)) := (Below.refl _ _).alloc (Nat.le_refl _) _
    go_loopg [4] 0 (fun g i wr => i = .int .i64 0 ∧ Below w'.heap.size w' wr)
    case atStart => exact ⟨rfl, B1⟩
    case round =>
      obtain ⟨rfl, hB⟩ := hrel
      clear hmk B1
      go_wp2_with (go_at_call 10; refine (lower_nil _).mono ?_; rintro e w2 ⟨rfl, rfl⟩)
      go_quiet (fail)
      go_wp2_with (go_at_call 11; refine (eq_nil _ _).mono ?_; rintro e w3 ⟨rfl, rfl⟩)
      go_ret
      exact ⟨rfl, below_drewN hB _⟩

/-- What holds at every round of the law's own loop: block b holds the copy; block c the first k of the folded bytes. -/
structure WL (w : World) (b c n : Nat) (z : Nat → Int) (k : Nat) (wr : World) : Prop where
  copy : Row wr b n z
  want : Row wr c n (fun j => if j < k then low (z j) else 0)
  below : Below w.heap.size w wr

theorem WL.start {w w1 : World} {n : Nat} {z : Nat → Int} (h : CL w n z n w1) : WL w w.heap.size w1.heap.size n z 0 (w1.alloc (.cells (madeCells #[.int .u8 0] n) 5)) :=
  ⟨World.rowIs.alloc (h.row.congr (fun i hi => by show Value.int .u8 (if i < n then z i else 0) = _; rw [if_pos hi])) _, (World.rowIs_made w1 (.int .u8 0) n 5).congr (fun i _ => by simp), h.below.alloc (by have := h.size; omega) _⟩
theorem WL.step {w : World} {b c n : Nat} {z : Nat → Int} {k : Nat} {wr : World} (h : WL w b c n z k wr) (hbc : b ≠ c) (hc : w.heap.size ≤ c) : WL w b c n z (k + 1) (wr.setCell ⟨c, k, none⟩ (.int .u8 (low (z k)))) :=
  ⟨h.copy.setOther hbc _, (h.want.set k _).congr (fun i _ => by
      by_cases e : i = k
      · subst e; simp
      · rw [if_neg e]
        show Value.int .u8 (if i < k then low (z i) else 0) = .int .u8 (if i < k + 1 then low (z i) else 0)
        by_cases e1 : i < k
        · rw [if_pos e1, if_pos (by omega)]
        · rw [if_neg e1, if_neg (by omega)]),
    h.below.setCell hc _⟩
theorem WL.done {w : World} {b c n : Nat} {z : Nat → Int} {wr : World} (h : WL w b c n z n wr) : Row wr c n (fun j => low (z j)) :=
  h.want.congr (fun i hi => by show Value.int .u8 (if i < n then low (z i) else 0) = _; rw [if_pos hi])

set_option maxHeartbeats 1000000 in
set_option maxRecDepth 100000 in
theorem law_big (x : Addr) (n cap : Nat) (w : World) (hn : (1048576 : Int) < (n : Int)) :
    Calls Trym.prog 3 #[.slice (some x) n cap] w fun e w' => e = .returned (.bool true) ∧ Below w.heap.size w w' := by
  go_enter Trym.func3, Trym.ntmps3
  go_wp2_with (go_at_call 7; refine (bytes_any _ _ _ _).mono ?_; rintro e w' ⟨r, rfl, rfl⟩)
  all_goals (go_ret; exact ⟨rfl, Below.refl _ _⟩)

set_option maxHeartbeats 1000000 in
set_option maxRecDepth 100000 in
theorem law_some (x : Addr) (n cap : Nat) (z : Nat → Int) (w : World) (hn : n ≤ 1048576) (hz : ∀ i, i < n → 0 ≤ z i ∧ z i ≤ 255) (hc : ∀ i, i < n → w.cell? (x.add i) = some (.int .u8 (z i))) :
    Calls Trym.prog 3 #[.slice (some x) n cap] w fun e w' => e = .returned (.bool true) ∧ Below w.heap.size w w' := by
  have q := eql_nil
  have hmk := run_make_row' (P := Trym.prog) 22 5 (.int .u8 0) 1 Trym.underlying22 info5 rfl .i64 .i64 n (by omega) (by omega)
  have hn2 : ¬ (1048576 : Int) < (n : Int) := by omega
  go_enter Trym.func3, Trym.ntmps3
  go_wp2_with (first
    | (go_at_call 7; refine (bytes_any _ _ _ _).mono ?_; rintro e w' ⟨r, rfl, rfl⟩)
    | (go_at_call 8; refine (clone_any x n cap z _ hn hc).mono ?_; rintro e w1 ⟨rfl, hC⟩))
  · go_ret
    exact ⟨rfl, Below.refl _ _⟩
  · have start := WL.start hC
    have hne : w'.heap.size ≠ w1.heap.size := by have := hC.size; omega
    have hge : w'.heap.size ≤ w1.heap.size := by have := hC.size; omega
    clear hC hc hmk
    go_loopg [4] n (fun g i wr => ∃ k : Nat, k ≤ n ∧ g = n - k ∧ i = .int .i64 k ∧ WL w' w'.heap.size w1.heap.size n z k wr)
    case atStart => exact ⟨0, Nat.zero_le _, rfl, rfl, start⟩
    case round =>
      obtain ⟨k, hk, rfl, rfl, hI⟩ := hrel
      clear start
      by_cases hlt : k < n
      · have hl2 : (k : Int) < (n : Int) := by omega
        have c1 := hI.copy.cell hlt
        have c2 : wr.cell? ⟨w1.heap.size, k, none⟩ = some (.int .u8 0) := by simpa using hI.want.cell hlt
        have f2 := hI.want.frozen k
        have hstep := hI.step hne hge
        obtain ⟨z0, z1⟩ := hz k hlt
        clear hI q
        go_wp2_with (go_at_call 9; refine (fold_any (z k) z0 z1 _).mono ?_; rintro e w2 ⟨rfl, rfl⟩)
        go_roundg (n - (k + 1))
        case measure => omega
        case rel => exact ⟨k + 1, by omega, rfl, by go_num, hstep⟩
      · have hl2 : ¬ (k : Int) < (n : Int) := by omega
        obtain rfl : k = n := by omega
        have n1 := neq_self
        by_cases h0 : k = 0
        · have hd : decide (0 < k) = false := decide_eq_false (by omega)
          clear h0
          go_wp2_with (go_at_call 10; refine (lower_any _ k z _ hn hz hI.copy).mono ?_; rintro e w2 ⟨rfl, hL⟩)
          have R1 : ∀ m, Row (w2.drewN m) w'.heap.size k (fun j => low (z j)) := fun m => hL.done
          have R2 : ∀ m, Row (w2.drewN m) w1.heap.size k (fun j => low (z j)) := fun m => hL.only.row hne.symm hI.done
          have B3 := hI.below.trans (hL.only.below (Nat.le_refl _))
          clear hL hI
          go_quiet (fail)
          go_wp2_with (go_at_call 11; refine (eq_any _ _ k (fun j => low (z j)) _ hn ?_ ?_).mono ?_; (first | exact R1 _ | exact R2 _); (first | exact R1 _ | exact R2 _); rintro e w3 ⟨rfl, m, rfl⟩)
          go_ret
          exact ⟨rfl, below_drewN B3 _⟩
        · have hd : decide (0 < k) = true := decide_eq_true (by omega)
          have hd1 : 0 < k := by omega
          have hd2 : (0 : Int) < (k : Int) := by omega
          clear h0
          go_wp2_with (go_at_call 10; refine (lower_any _ k z _ hn hz hI.copy).mono ?_; rintro e w2 ⟨rfl, hL⟩)
          have R1 : ∀ m, Row (w2.drewN m) w'.heap.size k (fun j => low (z j)) := fun m => hL.done
          have R2 : ∀ m, Row (w2.drewN m) w1.heap.size k (fun j => low (z j)) := fun m => hL.only.row hne.symm hI.done
          have B3 := hI.below.trans (hL.only.below (Nat.le_refl _))
          clear hL hI
          go_quiet (fail)
          go_wp2_with (go_at_call 11; refine (eq_any _ _ k (fun j => low (z j)) _ hn ?_ ?_).mono ?_; (first | exact R1 _ | exact R2 _); (first | exact R1 _ | exact R2 _); rintro e w3 ⟨rfl, m, rfl⟩)
          go_ret
          exact ⟨rfl, below_drewN B3 _⟩

end Go.Proofs.Qxb6602761aMods.Low
