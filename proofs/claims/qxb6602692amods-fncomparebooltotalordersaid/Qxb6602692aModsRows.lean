/-
  No cell of these rows narrows 'for every input' (looked for: loops, veiled, ifaces, maps, wideKeys, modest, calm, conditions, laid).
  DERIVED. THE GIVEN ROWS OF THIS SEAT. 2 by the template 'for every input the law returns true; each argument reads behind the call as it read before'; 0 by the template 'total and deterministic' (their statements: Qxb6602692aModsTotals.lean).
  GIVEN WITH THE SEED: the statements are not yours to turn. If you find one false, say at which input.
  Laid BY PROGRAM, IN A SANDBOX (cutbox-rows.mjs): the forced cells as the released guide's own fill.sh prints them over the translation 26487f12f244f192… (all of the seat's roots in one cut). By AI agents, Wed Nov 11 2026. No macro, syntax, notation, axiom, sorry.
-/
import Derived.Test.Qxb6602692aModsChecked
import GoSem.Claim
import GoSem.ClaimJoined
import GoSem.ClaimMapViews
import Derived.JoinedTies
import Derived.KernelRfl
namespace Go.Proofs.Qxb6602692aMods
/- THE CELL 'sum', in the pinned program and in every row, IS THE sha256 OF THE DUMP (.gsa) THAT Qxb6602692aModsProg.lean LOADS. Nothing in Lean hashes anything: it is a label: what it is worth is what the hold of that sum in a sandbox is worth. -/
noncomputable def Trym.pinned : Pinned := { name := "qxb6602692amods", sum := "26487f12f244f1921bd1e372f88f9801ba879f3df62adf41e9c53ff730b52c10", checked := Trym.checked }
namespace Rows
def none {H : Type} : Left H := { results := [], args := [] }

/-- 'zzlaws_internal_controller_b1.FnCompareBoolTrueFirstRank': WHATEVER THE INPUT: true; the input reads as it did. -/
def fnCompareBoolTrueFirstRankSpec : ChangeSpec := { name := "fnCompareBoolTrueFirstRank", fn := fun _ => fun
  | [d1, d2] => { results := [.lit (.bool true)], args := [d1, d2] }
  | _ => none }
def fnCompareBoolTrueFirstRankRow : OpenClaim := { program := "qxb6602692amods", sum := "26487f12f244f1921bd1e372f88f9801ba879f3df62adf41e9c53ff730b52c10", func := "example.com/corral/corral/zzlaws_internal_controller_b1.FnCompareBoolTrueFirstRank", spec := "fnCompareBoolTrueFirstRank", make := .lifted ["publicsums"], apart := false }
def FnCompareBoolTrueFirstRankSaid : Prop := fnCompareBoolTrueFirstRankRow.holds Trym.pinned (OpenSpec.ofChange fnCompareBoolTrueFirstRankSpec)

/-- ITS FALSE NEIGHBOUR: 'it returns false'. Refute it at one input. -/
def fnCompareBoolTrueFirstRankWrong : ChangeSpec := { name := "fnCompareBoolTrueFirstRank", fn := fun _ => fun
  | [d1, d2] => { results := [.lit (.bool false)], args := [d1, d2] }
  | _ => none }
def FnCompareBoolTrueFirstRankWrongFalsely : Prop := fnCompareBoolTrueFirstRankRow.holds Trym.pinned (OpenSpec.ofChange fnCompareBoolTrueFirstRankWrong)

/-- 'zzlaws_internal_controller_b1.FnCompareBoolTotalOrder': WHATEVER THE INPUT: true; the input reads as it did. -/
def fnCompareBoolTotalOrderSpec : ChangeSpec := { name := "fnCompareBoolTotalOrder", fn := fun _ => fun
  | [d1, d2, d3] => { results := [.lit (.bool true)], args := [d1, d2, d3] }
  | _ => none }
def fnCompareBoolTotalOrderRow : OpenClaim := { program := "qxb6602692amods", sum := "26487f12f244f1921bd1e372f88f9801ba879f3df62adf41e9c53ff730b52c10", func := "example.com/corral/corral/zzlaws_internal_controller_b1.FnCompareBoolTotalOrder", spec := "fnCompareBoolTotalOrder", make := .lifted ["publicsums"], apart := false }
def FnCompareBoolTotalOrderSaid : Prop := fnCompareBoolTotalOrderRow.holds Trym.pinned (OpenSpec.ofChange fnCompareBoolTotalOrderSpec)

/-- ITS FALSE NEIGHBOUR: 'it returns false'. Refute it at one input. -/
def fnCompareBoolTotalOrderWrong : ChangeSpec := { name := "fnCompareBoolTotalOrder", fn := fun _ => fun
  | [d1, d2, d3] => { results := [.lit (.bool false)], args := [d1, d2, d3] }
  | _ => none }
def FnCompareBoolTotalOrderWrongFalsely : Prop := fnCompareBoolTotalOrderRow.holds Trym.pinned (OpenSpec.ofChange fnCompareBoolTotalOrderWrong)

end Rows
end Go.Proofs.Qxb6602692aMods
