/-
  The proof of 'Rows.FnAuthOptionsDeepCopyIntoSelfSaid': the row's frame over the walk.
-/
import Derived.Test.Qxb6602433aModsSelfWalk
import Derived.ProofKit
import Derived.OpenShut
import Derived.ShutString
import Derived.ChangeOld
import Derived.Below
namespace Go.Proofs.Qxb6602433aMods.fnAuthOptionsDeepCopyIntoSelf
open Go.ChangeShapes Go.WideShapes Go.ChangeAt Go.RowKit
open Go.ChangeMaps (open_string shut_string)
open Go.Proofs.Qxb6602433aMods.Auth
set_option linter.unusedVariables false

theorem own : ownKnob Trym.prog.godebug = none := by kernel_rfl
theorem laidOut : laidOutB Trym.prog = true := by kernel_rfl
theorem cells4 : Trym.prog.cellsOf 4 = 1 := by kernel_rfl
theorem cells9 : Trym.prog.cellsOf 9 = 1 := by kernel_rfl

/-- An argument that is a pointer to a bool: what the walk is told of it. -/
theorem open_pb {H : Type} {enc : TypeId × Value → H} {W : World} {base : Nat} {v : Value} {d : DataW H} {ps : List MemPlace} (hval : Value.okWide Trym.prog W .any base 36 v)
    (h : DataW.Trod enc Trym.prog W 0 (fun _ => true) true 36 v d ps) (hfz : ∀ b off, MemPlace.cell b off ∈ ps → W.frozen? ⟨b, off, none⟩ = false) : ∃ p, v = .pointer p ∧ PA isB W p := by
  rcases open_ptr Trym.underlying36 (by rw [cells4]; omega) hval h with ⟨rfl, -, -⟩ | ⟨b, off, cs, y, fuel, rfl, -, rfl, hlen, hcell, hy⟩
  · exact ⟨none, rfl, .inl rfl⟩
  · obtain ⟨x, rfl, -⟩ := DataW.trod_bool Trym.underlying4 hy
    have hc := hcell 0 (by rw [cells4]; omega)
    refine ⟨_, rfl, .inr ⟨b, off, .bool x, rfl, by simpa using hc, ⟨x, rfl⟩, hfz b off ?_⟩⟩
    rw [cells4]
    simp [row_one]

/-- An argument that is a pointer to a string. -/
theorem open_ps {H : Type} {enc : TypeId × Value → H} {W : World} {base : Nat} {v : Value} {d : DataW H} {ps : List MemPlace} (hval : Value.okWide Trym.prog W .any base 37 v)
    (h : DataW.Trod enc Trym.prog W 0 (fun _ => true) true 37 v d ps) (hfz : ∀ b off, MemPlace.cell b off ∈ ps → W.frozen? ⟨b, off, none⟩ = false) : ∃ p, v = .pointer p ∧ PA isS W p := by
  rcases open_ptr Trym.underlying37 (by rw [cells9]; omega) hval h with ⟨rfl, -, -⟩ | ⟨b, off, cs, y, fuel, rfl, -, rfl, hlen, hcell, hy⟩
  · exact ⟨none, rfl, .inl rfl⟩
  · obtain ⟨x, rfl, -⟩ := DataW.trod_string Trym.underlying9 hy
    have hc := hcell 0 (by rw [cells9]; omega)
    refine ⟨_, rfl, .inr ⟨b, off, .string x, rfl, by simpa using hc, ⟨x, rfl⟩, hfz b off ?_⟩⟩
    rw [cells9]
    simp [row_one]

set_option maxRecDepth 100000 in
theorem lifted (os : Os) (started : os.Started) (H : Type) (enc : TypeId × Value → H) :
    ReturnsInHanded {} Trym.checked os 6 .any (Rows.fnAuthOptionsDeepCopyIntoSelfSpec.pre6 enc Trym.prog Trym.f6 Rows.fnAuthOptionsDeepCopyIntoSelfRow.domain false) (Rows.fnAuthOptionsDeepCopyIntoSelfSpec.post enc Trym.prog Trym.f6 false true false false) := by
  refine returnsInHanded_of_change (C := Trym.checked) own started (by kernel_rfl) Trym.func6
    (ChangeSpec.witness6 (enc := enc) (C := Trym.checked) false ⟨#[], #[.pointer none, .pointer none, .string ByteArray.empty], []⟩ 8 (by kernel_rfl) (by kernel_rfl) (by kernel_rfl) (by kernel_rfl)) ?_
  intro W base args ds gs before hval0 hW hcnd _
  have hval : ∀ (j : Nat) t v, Trym.f6.params[j]? = some t → args[j]? = some v → Value.okWide Trym.prog W .any base t v := hval0
  have hW' := hW
  obtain ⟨p, q, hA0, hV, rfl, hfz, hnd⟩ := hW
  have hA : DataW.TrodAll enc Trym.prog W 0 (fun _ => true) true Trym.f6.params.toList args.toList ds p := hA0
  rw [Trym.params6] at hA hval
  obtain ⟨v0, vs0, d0, ds0, p0, q0, hargs, rfl, rfl, h0, r0⟩ := trodAll_cons hA
  obtain ⟨v1, vs1, d1, ds1, p1, q1, rfl, rfl, rfl, h1, r1⟩ := trodAll_cons r0
  obtain ⟨v2, vs2, d2, ds2, p2, q2, rfl, rfl, rfl, h2, r2⟩ := trodAll_cons r1
  obtain ⟨rfl, rfl, rfl⟩ := trodAll_nil r2
  obtain rfl : args = #[v0, v1, v2] := by cases args; simp_all
  obtain ⟨rfl, rfl⟩ := trodVars_none hV
  have k0 := h0
  have lt0 : ∀ x ∈ p0, x.block < W.heap.size := by obtain ⟨m, hm⟩ := k0; exact DataW.trod_lt m _ _ _ hm
  obtain ⟨a0, rfl, w0⟩ := open_pb (hval 0 36 v0 rfl rfl) h0 (fun b off hm => hfz b off (by simp only [List.mem_append]; simp [hm]))
  have k1 := h1
  have lt1 : ∀ x ∈ p1, x.block < W.heap.size := by obtain ⟨m, hm⟩ := k1; exact DataW.trod_lt m _ _ _ hm
  obtain ⟨a1, rfl, w1⟩ := open_ps (hval 1 37 v1 rfl rfl) h1 (fun b off hm => hfz b off (by simp only [List.mem_append]; simp [hm]))
  have k2 := h2
  have lt2 : ∀ x ∈ p2, x.block < W.heap.size := by obtain ⟨m, hm⟩ := k2; exact DataW.trod_lt m _ _ _ hm
  obtain ⟨a2, rfl⟩ := okWide_string Trym.underlying9 (hval 2 9 v2 rfl rfl)
  clear hA0 hval0
  refine (self_walk a0 a1 a2 W w0 w1).mono fun e W' ⟨he, bel⟩ => ?_
  subst he
  exact ⟨_, rfl, _, _, _, [], _, [], hW', trodAll_mk1 (shut_bool Trym.underlying4 _), (trodAll_cons_mk (Below.trod laidOut (by kernel_rfl) (of_decide_eq_true (by kernel_rfl)) k0 bel lt0) (trodAll_cons_mk (Below.trod laidOut (by kernel_rfl) (of_decide_eq_true (by kernel_rfl)) k1 bel lt1) (trodAll_cons_mk (Below.trod laidOut (by kernel_rfl) (of_decide_eq_true (by kernel_rfl)) k2 bel lt2) trodAll_mk0))), rfl, bel.frame _, fun h => by cases h⟩

theorem over : Rows.fnAuthOptionsDeepCopyIntoSelfRow.holds Trym.pinned (OpenSpec.ofChange Rows.fnAuthOptionsDeepCopyIntoSelfSpec) :=
  OpenClaim.holds_of_wide 6 Trym.f6 rfl rfl rfl rfl rfl rfl rfl ⟨rfl, rfl, rfl, rfl, rfl⟩ rfl rfl rfl rfl rfl (by kernel_rfl) Trym.func6 (by kernel_rfl)
    (of_decide_eq_true (by kernel_rfl)) (by unfold Func.isWrapper; first | (rw [if_pos (by decide +kernel)]; kernel_rfl) | (rw [if_neg (by decide +kernel)]; exact ⟨rfl, rfl⟩))
    (fun os started H enc _ => lifted os started H enc)

/-- THE STATEMENT -/
theorem proved : Rows.FnAuthOptionsDeepCopyIntoSelfSaid := over
#print axioms proved
end Go.Proofs.Qxb6602433aMods.fnAuthOptionsDeepCopyIntoSelf
