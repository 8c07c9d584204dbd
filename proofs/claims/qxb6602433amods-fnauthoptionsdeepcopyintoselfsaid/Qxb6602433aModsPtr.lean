/-
  Comparing two pointers: what the model's '==' and '!=' give at a pointer type whose pointee has a size.
-/
import Derived.Test.Qxb6602433aModsRows
import Derived.WalkKit
import Derived.WalkSpells
import Derived.WalkLawsBesides
import Derived.LaidEqlPtr
namespace Go.Proofs.Qxb6602433aMods.Auth
open Go.RowKit

theorem info4 : ∃ j, Trym.prog.info? 4 = some j ∧ j.size ≠ 0 := by
  have h : ((Trym.prog.info? 4).map fun j => decide (j.size ≠ 0)) = some true := by kernel_rfl
  cases e : Trym.prog.info? 4 with
  | none => rw [e] at h; cases h
  | some j => rw [e] at h; exact ⟨j, rfl, by simpa using h⟩
theorem info9 : ∃ j, Trym.prog.info? 9 = some j ∧ j.size ≠ 0 := by
  have h : ((Trym.prog.info? 9).map fun j => decide (j.size ≠ 0)) = some true := by kernel_rfl
  cases e : Trym.prog.info? 9 with
  | none => rw [e] at h; cases h
  | some j => rw [e] at h; exact ⟨j, rfl, by simpa using h⟩

/-- A pointer that may be compared: nil, or the address of a cell that is not frozen. -/
def Live (w : World) (p : Option Addr) : Prop := p = none ∨ ∃ b o v, p = some ⟨b, o, none⟩ ∧ w.cell? ⟨b, o, none⟩ = some v ∧ w.frozen? ⟨b, o, none⟩ = false

theorem cell_obj {w : World} {b o : Nat} {v : Value} (h : w.cell? ⟨b, o, none⟩ = some v) : ∃ c t m, w.heap[b]? = some (.cells c t m) ∧ c[o]? = some v := by
  unfold World.cell? at h
  split at h
  · rename_i c t m hh
    exact ⟨c, t, m, hh, by simpa using h⟩
  · cases h

theorem run_sameAddr_live {P : Program} {w : World} {a b : Addr} {va vb : Value} (ha : w.cell? a = some va) (hb : w.cell? b = some vb) (fa : w.frozen? a = false) :
    ∃ r w1, (sameAddr a b).run P w = .ok r w1 ∧ (w1 = w ∨ w1 = w.drew) := by
  obtain ⟨ab, ao, sa⟩ := a
  obtain ⟨bb, bo, sb⟩ := b
  have hsa : sa = none := World.cell?_spot ha
  have hsb : sb = none := World.cell?_spot hb
  subst hsa; subst hsb
  obtain ⟨ca, ta, ma, ea, -⟩ := cell_obj ha
  obtain ⟨cb, tb, mb, eb, -⟩ := cell_obj hb
  obtain ⟨res, hres⟩ : ∃ res, (sameAddr ⟨ab, ao, none⟩ ⟨bb, bo, none⟩).run P w = res := ⟨_, rfl⟩
  rw [hres]
  by_cases hbl : ab = bb
  · simp [sameAddr, hbl] at hres
    subst hres
    exact ⟨_, _, rfl, .inl rfl⟩
  · simp [sameAddr, hbl, fa, noView, viewAt, World.shape?, ea, eb, mayBeOne, stringish] at hres
    repeat' split at hres
    all_goals
      subst hres
      first
      | exact ⟨_, _, rfl, .inl rfl⟩
      | exact ⟨_, _, rfl, .inr rfl⟩

/-- '==' at two live pointers: some Bool; at most one answer is drawn. -/
theorem run_eql_live (w : World) {t e : TypeId} (ht : Trym.prog.underlying t = some (.pointer e)) (he : ∃ j, Trym.prog.info? e = some j ∧ j.size ≠ 0) (a b : Option Addr) (ha : Live w a) (hb : Live w b) :
    ∃ r w1, (binOp .eql t (.pointer a) (.pointer b)).run Trym.prog w = .ok (.bool r) w1 ∧ (w1 = w ∨ w1 = w.drew) := by
  obtain ⟨j, hj, hsz⟩ := he
  rcases ha with rfl | ⟨ab, ao, va, rfl, ca, fa⟩
  · have h : ∀ d : Nat, (Op.equalIn (d + 1) t (.pointer none) (.pointer b)).run Trym.prog w = .ok b.isNone w := fun d => by
      simp [Op.equalIn, run_underlying ht]
    refine ⟨b.isNone, w, ?_, .inl rfl⟩
    simp only [binOp]
    simp [Op.equal, Op.maxDepth, h 9999]
  rcases hb with rfl | ⟨bb, bo, vb, rfl, cb, fb⟩
  · have h : ∀ d : Nat, (Op.equalIn (d + 1) t (.pointer (some ⟨ab, ao, none⟩)) (.pointer none)).run Trym.prog w = .ok false w := fun d => by
      simp [Op.equalIn, run_underlying ht]
    refine ⟨false, w, ?_, .inl rfl⟩
    simp only [binOp]
    simp [Op.equal, Op.maxDepth, h 9999]
  obtain ⟨r, w1, hr, hw⟩ := run_sameAddr_live (P := Trym.prog) ca cb fa
  have h : ∀ d : Nat, (Op.equalIn (d + 1) t (.pointer (some ⟨ab, ao, none⟩)) (.pointer (some ⟨bb, bo, none⟩))).run Trym.prog w = .ok r w1 := fun d => by
    simp [Op.equalIn, run_underlying ht, sizeOf, typeInfo, hj, hsz, hr]
  refine ⟨r, w1, ?_, hw⟩
  simp only [binOp]
  simp [Op.equal, Op.maxDepth, h 9999]

/-- '!=' at one pointer and itself. -/
theorem run_neq_self (w : World) {t e : TypeId} (ht : Trym.prog.underlying t = some (.pointer e)) (he : ∃ j, Trym.prog.info? e = some j ∧ j.size ≠ 0) (a : Option Addr) :
    (binOp .neq t (.pointer a) (.pointer a)).run Trym.prog w = .ok (.bool false) w := by
  obtain ⟨j, hj, _⟩ := he
  cases a with
  | none =>
    have h : ∀ d : Nat, (Op.equalIn (d + 1) t (.pointer none) (.pointer none)).run Trym.prog w = .ok true w := fun d => by
      simp [Op.equalIn, run_underlying ht]
    simp only [binOp]
    simp [Op.equal, Op.maxDepth, h 9999]
  | some a =>
    have h : ∀ d : Nat, (Op.equalIn (d + 1) t (.pointer (some a)) (.pointer (some a))).run Trym.prog w = .ok true w := fun d => by
      simp [Op.equalIn, run_underlying ht, sizeOf, typeInfo, hj, run_sameAddr_same]
    simp only [binOp]
    simp [Op.equal, Op.maxDepth, h 9999]

/-- A pointer that a new block c is not: nil, or the address of a cell of another block. -/
def Apart (w : World) (c : Nat) (p : Option Addr) : Prop := p = none ∨ ∃ b o v, p = some ⟨b, o, none⟩ ∧ b ≠ c ∧ w.cell? ⟨b, o, none⟩ = some v

/-- '!=' at the address of a block of the call's own, and another pointer. -/
theorem run_neq_fresh (w : World) {t e : TypeId} (ht : Trym.prog.underlying t = some (.pointer e)) (he : ∃ j, Trym.prog.info? e = some j ∧ j.size ≠ 0) {c : Nat} {cs : Array Value} {ct : TypeId}
    (hc : w.heap[c]? = some (.cells cs ct (0, 0))) (p : Option Addr) (hp : Apart w c p) :
    (binOp .neq t (.pointer (some ⟨c, 0, none⟩)) (.pointer p)).run Trym.prog w = .ok (.bool true) w := by
  obtain ⟨j, hj, hsz⟩ := he
  rcases hp with rfl | ⟨b, o, v, rfl, hne, hv⟩
  · have h : ∀ d : Nat, (Op.equalIn (d + 1) t (.pointer (some ⟨c, 0, none⟩)) (.pointer none)).run Trym.prog w = .ok false w := fun d => by
      simp [Op.equalIn, run_underlying ht]
    simp only [binOp]
    simp [Op.equal, Op.maxDepth, h 9999]
  · obtain ⟨cb, tb, mb, eb, hcb⟩ := cell_obj hv
    have hsz0 : cb.size ≠ 0 := by
      intro h0
      have : cb[o]? = none := Array.getElem?_eq_none (by omega)
      rw [this] at hcb
      cases hcb
    have hs : (sameAddr ⟨c, 0, none⟩ ⟨b, o, none⟩).run Trym.prog w = .ok false w := by
      have hne' : ¬ c = b := fun h => hne h.symm
      have f1 : ∀ o, w.frozen? ⟨c, o, none⟩ = false := fun o => by simp [World.frozen?, hc]
      have hm : (match some (tb, cb.size) with | some (_, 0) => true | _ => false) = false := by
        cases h : cb.size with
        | zero => exact absurd h hsz0
        | succ n => rfl
      simp [sameAddr, hne', f1, noView, viewAt, World.shape?, hc, eb, mayBeOne, stringish]
      repeat' split
      all_goals first | rfl | simp_all
    have h : ∀ d : Nat, (Op.equalIn (d + 1) t (.pointer (some ⟨c, 0, none⟩)) (.pointer (some ⟨b, o, none⟩))).run Trym.prog w = .ok false w := fun d => by
      simp [Op.equalIn, run_underlying ht, sizeOf, typeInfo, hj, hsz, hs]
    simp only [binOp]
    simp [Op.equal, Op.maxDepth, h 9999]

end Go.Proofs.Qxb6602433aMods.Auth
