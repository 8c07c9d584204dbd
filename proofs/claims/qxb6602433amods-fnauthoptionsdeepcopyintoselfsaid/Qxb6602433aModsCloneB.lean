/-
  cloneBools.
-/
import Derived.Test.Qxb6602433aModsCInv
import Derived.Deep.LoopGhost
import Derived.Deep.QuietTactic
import Derived.BigQuiet
import Derived.RegionTactic
namespace Go.Proofs.Qxb6602433aMods.Auth
open Go.RowKit

theorem isB_ptr (r : Option Addr) : ¬ isB (.pointer r) := by rintro ⟨x, h⟩; cases h

theorem cb_start (w : World) (P : Nat → Option Addr) : CInv isB 2 w P (((w.alloc (.cells #[.pointer (P 0), .pointer (P 1)] 40)).alloc (.cells #[.pointer none, .pointer none] 40)).alloc (.cells #[.pointer none, .pointer none] 40)) := by
  have two : ∀ i, i < 2 → i = 0 ∨ i = 1 := by omega
  refine ⟨(((Below.refl _ _).alloc (Nat.le_refl _) _).alloc (by simp) _).alloc (by simp; omega) _, by simp, ?_, ?_, ?_, ?_, ?_⟩
  · intro i hi
    rcases two i hi with rfl | rfl
    · rw [World.cell?_alloc_past _ _ _ (by simp; omega), World.cell?_alloc_past _ _ _ (by simp), World.cell?_alloc_at _ _ _ _ rfl]; rfl
    · rw [World.cell?_alloc_past _ _ _ (by simp; omega), World.cell?_alloc_past _ _ _ (by simp), World.cell?_alloc_at _ _ _ _ rfl]; rfl
  · intro i hi
    rcases two i hi with rfl | rfl <;> exact ⟨none, by simp [World.cell?_alloc_past, World.cell?_alloc_at]⟩
  · intro i
    simp [World.frozen?_alloc_past, World.frozen?_alloc_at]
  · intro i hi
    rcases two i hi with rfl | rfl <;> exact ⟨none, by simp [World.cell?_alloc_at], .inl rfl⟩
  · intro i
    simp [World.frozen?_alloc_at]

set_option maxHeartbeats 400000 in
theorem cloneBools_any (P : Nat → Option Addr) (w : World) (hP : ∀ i, i < 2 → PA isB w (P i)) :
    Calls Trym.prog 21 #[.agg #[.pointer (P 0), .pointer (P 1)]] w fun e w' => ∃ q0 q1, e = .returned (.agg #[.pointer q0, .pointer q1]) ∧ PT isB w' q0 ∧ PT isB w' q1 ∧ Below w.heap.size w w' := by
  have start := cb_start w P
  go_enter Trym.func21, Trym.ntmps21
  go_wp2
  go_loopg [4] 2 (fun g i wr => ∃ k : Nat, k ≤ 2 ∧ g = 2 - k ∧ i = .int .i64 k ∧ CInv isB 2 w P wr)
  case atStart => exact ⟨0, Nat.zero_le _, rfl, rfl, start⟩
  case round =>
    clear start
    obtain ⟨k, hk, rfl, rfl, hI⟩ := hrel
    by_cases hlt : k < 2
    · have c1 := hI.ps k hlt
      have hl : (k : Int) < 2 := by omega
      rcases hP k hlt with h0 | ⟨b, o, v, h0, hc, ⟨x, rfl⟩, hf⟩
      · rw [h0] at c1
        go_wp2
        go_roundg (2 - (k + 1))
        case measure => omega
        case rel => exact ⟨k + 1, by omega, rfl, by go_num, hI⟩
      · rw [h0] at c1
        go_wp2
        go_loopg [5, 6] k (fun g s j wi => ∃ i : Nat, i ≤ k ∧ g = k - i ∧ s = .bool false ∧ j = .int .i64 i ∧ CInv isB 2 w P wi)
        case atStart => exact ⟨0, Nat.zero_le _, rfl, rfl, rfl, hI⟩
        case round =>
          obtain ⟨i, hi, rfl, rfl, rfl, hJ⟩ := hrel
          clear hI c1
          by_cases hlt2 : i < k
          · have d1 := hJ.ps k hlt
            have d2 := hJ.ps i (by omega)
            rw [h0] at d1
            have hl2 : (i : Int) < 2 := by omega
            have hl3 : (i : Int) < (k : Int) := by omega
            obtain ⟨r, w1, heq, hw1⟩ := run_eql_live wr.drew Trym.underlying36 info4 (P i) (some ⟨b, o, none⟩) (PA.live (hP i (by omega)) hJ.below.drew) (.inr ⟨b, o, _, rfl, by rw [hJ.below.drew.cell (cell_lt hc)]; exact hc, by rw [hJ.below.drew.frozen (cell_lt hc)]; exact hf⟩)
            go_wp2
            go_region
            have hJ1 : CInv isB 2 w P w1 := hJ.drawn hw1
            obtain ⟨q, e1, hq⟩ := hJ1.cs i (by omega)
            obtain ⟨q', e2, _⟩ := hJ1.cs k hlt
            have e3 := hJ1.cf k
            clear heq hw1 d1 d2
            cases r
            · go_wp2
              go_roundg (k - (i + 1))
              case measure => omega
              case rel => exact ⟨i + 1, by omega, rfl, rfl, by go_num, hJ1⟩
            · go_wp2
              go_roundg (2 - (k + 1))
              case measure => omega
              case rel => exact ⟨k + 1, by omega, rfl, by go_num, hJ1.set isB_ptr hlt hq⟩
          · have hik : ¬ (i : Int) < (k : Int) := by omega
            have d1 := hJ.ps k hlt
            rw [h0] at d1
            obtain ⟨q', e2, _⟩ := hJ.cs k hlt
            have e3 := hJ.cf k
            have hs := hJ.size
            have d2 : wr.cell? ⟨b, o, none⟩ = some (.bool x) := by rw [hJ.below.cell (cell_lt hc)]; exact hc
            have s1 : w.heap.size < wr.heap.size := by omega
            have s2 : w.heap.size + 1 + 1 < wr.heap.size := by omega
            have s3 : b < wr.heap.size := cell_lt d2
            have hnew := (hJ.alloc (.cells #[.bool x] 4)).set isB_ptr hlt (PT.new wr 4 ⟨x, rfl⟩)
            rw [World.setCell_alloc_past _ _ _ _ s2] at hnew
            clear hs
            go_wp2
            go_roundg (2 - (k + 1))
            case measure => omega
            case rel => exact ⟨k + 1, by omega, rfl, by go_num, hnew⟩
    · have hl : ¬ (k : Int) < 2 := by omega
      obtain ⟨q0, a0, b0⟩ := hI.cs 0 (by omega)
      obtain ⟨q1, a1, b1⟩ := hI.cs 1 (by omega)
      obtain ⟨r0, c0⟩ := hI.rs 0 (by omega)
      obtain ⟨r1, c1⟩ := hI.rs 1 (by omega)
      have f0 := hI.rf 0
      have f1 := hI.rf 1
      have hs := hI.size
      have g0 : ((wr.setCell ⟨w.heap.size + 1, 0, none⟩ (.pointer q0)).setCell ⟨w.heap.size + 1, 1, none⟩ (.pointer q1)).cell? ⟨w.heap.size + 1, 0, none⟩ = some (.pointer q0) := by
        rw [World.cell?_setCell_other _ _ _ _ (by simp)]
        exact World.cell?_setCell_same _ _ _ c0
      have g1' : (wr.setCell ⟨w.heap.size + 1, 0, none⟩ (.pointer q0)).cell? ⟨w.heap.size + 1, 1, none⟩ = some (.pointer r1) := by
        rw [World.cell?_setCell_other _ _ _ _ (by simp)]
        exact c1
      have g1 : ((wr.setCell ⟨w.heap.size + 1, 0, none⟩ (.pointer q0)).setCell ⟨w.heap.size + 1, 1, none⟩ (.pointer q1)).cell? ⟨w.heap.size + 1, 1, none⟩ = some (.pointer q1) :=
        World.cell?_setCell_same _ _ _ g1'
      have k0 := (b0.set isB_ptr c0 (.pointer q0)).set isB_ptr g1' (.pointer q1)
      have k1 := (b1.set isB_ptr c0 (.pointer q0)).set isB_ptr g1' (.pointer q1)
      have kb := (hI.below.setCell (p := ⟨w.heap.size + 1, 0, none⟩) (by simp) (.pointer q0)).setCell (p := ⟨w.heap.size + 1, 1, none⟩) (by simp) (.pointer q1)
      clear hI hs
      go_wp2
      exact bodyPost_ret (v := .agg #[.pointer q0, .pointer q1]) (by simp [results, Trym.results21, go_sem, g0, g1]) rfl ⟨q0, q1, rfl, k0, k1, kb⟩

end Go.Proofs.Qxb6602433aMods.Auth
