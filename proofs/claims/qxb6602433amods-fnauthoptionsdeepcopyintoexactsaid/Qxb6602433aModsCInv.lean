/-
  What holds at every round of cloneBools and cloneStrs: no Go text is walked here.
-/
import Derived.Test.Qxb6602433aModsSmall
namespace Go.Proofs.Qxb6602433aMods.Auth
open Go.RowKit

/-- A pointer whose pointee may be read: nil, or the address of a cell that holds a value of which V holds. -/
def PT (V : Value → Prop) (w : World) (p : Option Addr) : Prop := p = none ∨ ∃ b o v, p = some ⟨b, o, none⟩ ∧ w.cell? ⟨b, o, none⟩ = some v ∧ V v

def isB (v : Value) : Prop := ∃ x, v = .bool x
def isS (v : Value) : Prop := ∃ x, v = .string x

theorem PT.pb {w : World} {p : Option Addr} (h : PT isB w p) : PB w p := by
  rcases h with rfl | ⟨b, o, v, rfl, hc, x, rfl⟩
  · exact .inl rfl
  · exact .inr ⟨b, o, x, rfl, hc⟩
theorem PT.psx {w : World} {p : Option Addr} (h : PT isS w p) : PS w p := by
  rcases h with rfl | ⟨b, o, v, rfl, hc, x, rfl⟩
  · exact .inl rfl
  · exact .inr ⟨b, o, x, rfl, hc⟩

theorem PT.drew {V : Value → Prop} {w : World} {p : Option Addr} (h : PT V w p) : PT V w.drew p := h

theorem cell_lt {w : World} {b o : Nat} {v : Value} (h : w.cell? ⟨b, o, none⟩ = some v) : b < w.heap.size := by
  obtain ⟨c, t, m, e, -⟩ := cell_obj h
  exact (Array.getElem?_eq_some_iff.1 e).1

theorem PT.alloc {V : Value → Prop} {w : World} {p : Option Addr} (h : PT V w p) (o : Obj) : PT V (w.alloc o) p := by
  rcases h with rfl | ⟨b, o', v, rfl, hc, hv⟩
  · exact .inl rfl
  · exact .inr ⟨b, o', v, rfl, by rw [World.cell?_alloc_lt _ _ _ (cell_lt hc)]; exact hc, hv⟩

/-- A store into a cell that holds a pointer turns no pointee. -/
theorem PT.set {V : Value → Prop} (hV : ∀ r, ¬ V (.pointer r)) {w : World} {p : Option Addr} (h : PT V w p) {a : Addr} {r : Option Addr} (ha : w.cell? a = some (.pointer r)) (v : Value) : PT V (w.setCell a v) p := by
  rcases h with rfl | ⟨b, o, u, rfl, hc, hu⟩
  · exact .inl rfl
  · refine .inr ⟨b, o, u, rfl, ?_, hu⟩
    rw [World.cell?_setCell_other]
    · exact hc
    · rintro rfl
      rw [ha] at hc
      cases hc
      exact hV _ hu

theorem PT.below {V : Value → Prop} {w w' : World} {p : Option Addr} (h : PT V w p) (hb : Below w.heap.size w w') : PT V w' p := by
  rcases h with rfl | ⟨b, o, v, rfl, hc, hv⟩
  · exact .inl rfl
  · exact .inr ⟨b, o, v, rfl, by rw [hb.cell (cell_lt hc)]; exact hc, hv⟩

/-- An argument's pointer: its pointee may be read, and is not frozen. -/
def PA (V : Value → Prop) (w : World) (p : Option Addr) : Prop := p = none ∨ ∃ b o v, p = some ⟨b, o, none⟩ ∧ w.cell? ⟨b, o, none⟩ = some v ∧ V v ∧ w.frozen? ⟨b, o, none⟩ = false

theorem PA.live {V : Value → Prop} {w w' : World} {p : Option Addr} (h : PA V w p) (hb : Below w.heap.size w w') : Live w' p := by
  rcases h with rfl | ⟨b, o, v, rfl, hc, _, hf⟩
  · exact .inl rfl
  · exact .inr ⟨b, o, v, rfl, by rw [hb.cell (cell_lt hc)]; exact hc, by rw [hb.frozen (cell_lt hc)]; exact hf⟩
theorem PA.pt {V : Value → Prop} {w : World} {p : Option Addr} (h : PA V w p) : PT V w p := by
  rcases h with rfl | ⟨b, o, v, rfl, hc, hv, _⟩
  · exact .inl rfl
  · exact .inr ⟨b, o, v, rfl, hc, hv⟩
theorem PA.below {V : Value → Prop} {w w' : World} {p : Option Addr} (h : PA V w p) (hb : Below w.heap.size w w') : PA V w' p := by
  rcases h with rfl | ⟨b, o, v, rfl, hc, hv, hf⟩
  · exact .inl rfl
  · exact .inr ⟨b, o, v, rfl, by rw [hb.cell (cell_lt hc)]; exact hc, hv, by rw [hb.frozen (cell_lt hc)]; exact hf⟩

/-- WHAT HOLDS AT EVERY ROUND: of what was there nothing has turned; block 'size' holds the pointers that came in; block 'size + 1' is the result's; block 'size + 2' holds the copies made so far. -/
structure CInv (V : Value → Prop) (N : Nat) (w : World) (P : Nat → Option Addr) (wr : World) : Prop where
  below : Below w.heap.size w wr
  size : w.heap.size + 3 ≤ wr.heap.size
  ps : ∀ i, i < N → wr.cell? ⟨w.heap.size, i, none⟩ = some (.pointer (P i))
  rs : ∀ i, i < N → ∃ q, wr.cell? ⟨w.heap.size + 1, i, none⟩ = some (.pointer q)
  rf : ∀ i, wr.frozen? ⟨w.heap.size + 1, i, none⟩ = false
  cs : ∀ i, i < N → ∃ q, wr.cell? ⟨w.heap.size + 1 + 1, i, none⟩ = some (.pointer q) ∧ PT V wr q
  cf : ∀ i, wr.frozen? ⟨w.heap.size + 1 + 1, i, none⟩ = false

theorem CInv.drew {V : Value → Prop} {N : Nat} {w : World} {P : Nat → Option Addr} {wr : World} (h : CInv V N w P wr) : CInv V N w P wr.drew :=
  ⟨h.below.drew, h.size, h.ps, h.rs, h.rf, h.cs, h.cf⟩

theorem CInv.alloc {V : Value → Prop} {N : Nat} {w : World} {P : Nat → Option Addr} {wr : World} (h : CInv V N w P wr) (o : Obj) : CInv V N w P (wr.alloc o) := by
  have hs := h.size
  have hc : ∀ b i, b < wr.heap.size → (wr.alloc o).cell? ⟨b, i, none⟩ = wr.cell? ⟨b, i, none⟩ := fun b i hb => World.cell?_alloc_lt _ _ _ hb
  have hf : ∀ b i, b < wr.heap.size → (wr.alloc o).frozen? ⟨b, i, none⟩ = wr.frozen? ⟨b, i, none⟩ := fun b i hb => World.frozen?_alloc_old _ _ _ (by show b ≠ _; omega)
  refine ⟨h.below.alloc (by omega) o, by simp; omega, fun i hi => ?_, fun i hi => ?_, fun i => ?_, fun i hi => ?_, fun i => ?_⟩
  · rw [hc _ _ (by omega)]; exact h.ps i hi
  · rw [hc _ _ (by omega)]; exact h.rs i hi
  · rw [hf _ _ (by omega)]; exact h.rf i
  · obtain ⟨q, h1, h2⟩ := h.cs i hi
    exact ⟨q, by rw [hc _ _ (by omega)]; exact h1, h2.alloc o⟩
  · rw [hf _ _ (by omega)]; exact h.cf i

/-- A copy is laid in its place. -/
theorem CInv.set {V : Value → Prop} (hV : ∀ r, ¬ V (.pointer r)) {N : Nat} {w : World} {P : Nat → Option Addr} {wr : World} (h : CInv V N w P wr) {k : Nat} (hk : k < N) {q : Option Addr} (hq : PT V wr q) :
    CInv V N w P (wr.setCell ⟨w.heap.size + 1 + 1, k, none⟩ (.pointer q)) := by
  have hs := h.size
  obtain ⟨r, hr, _⟩ := h.cs k hk
  have hc : ∀ b i, b ≠ w.heap.size + 1 + 1 → (wr.setCell ⟨w.heap.size + 1 + 1, k, none⟩ (.pointer q)).cell? ⟨b, i, none⟩ = wr.cell? ⟨b, i, none⟩ := fun b i hb => by
    rw [World.cell?_setCell_other]
    intro e
    cases e
    exact hb rfl
  refine ⟨h.below.setCell (by show _ ≤ w.heap.size + 1 + 1; omega) _, by simp [World.setCell]; omega, fun i hi => ?_, fun i hi => ?_, fun i => ?_, fun i hi => ?_, fun i => ?_⟩
  · rw [hc _ _ (by omega)]; exact h.ps i hi
  · rw [hc _ _ (by omega)]; exact h.rs i hi
  · rw [World.frozen?_setCell]; exact h.rf i
  · by_cases e : i = k
    · subst e
      exact ⟨q, World.cell?_setCell_same _ _ _ hr, hq.set hV hr _⟩
    · obtain ⟨q', h1, h2⟩ := h.cs i hi
      refine ⟨q', ?_, h2.set hV hr _⟩
      rw [World.cell?_setCell_other]
      · exact h1
      · intro e'
        cases e'
        exact e rfl
  · rw [World.frozen?_setCell]; exact h.cf i

theorem CInv.drawn {V : Value → Prop} {N : Nat} {w : World} {P : Nat → Option Addr} {wr w1 : World} (h : CInv V N w P wr) (hw : w1 = wr.drew ∨ w1 = wr.drew.drew) : CInv V N w P w1 := by
  rcases hw with rfl | rfl
  · exact h.drew
  · exact h.drew.drew

theorem PT.new {V : Value → Prop} (w : World) (t : TypeId) {v : Value} (hv : V v) : PT V (w.alloc (.cells #[v] t)) (some ⟨w.heap.size, 0, none⟩) :=
  .inr ⟨_, _, v, rfl, by simp, hv⟩

end Go.Proofs.Qxb6602433aMods.Auth
