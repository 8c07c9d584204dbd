/-
  No cell of these rows narrows 'for every input' (looked for: loops, veiled, ifaces, maps, wideKeys, modest, calm, conditions, laid).
  DERIVED. THE GIVEN ROWS OF THIS SEAT. 6 by the template 'for every input the law returns true; each argument reads behind the call as it read before'; 0 by the template 'total and deterministic' (their statements: Qxb6602433aModsTotals.lean).
  GIVEN WITH THE SEED: the statements are not yours to turn. If you find one false, say at which input.
  Laid BY PROGRAM, IN A SANDBOX (cutbox-rows.mjs): the forced cells as the released guide's own fill.sh prints them over the translation e4a0c4500d649245… (all of the seat's roots in one cut). By AI agents, Wed Nov 11 2026. No macro, syntax, notation, axiom, sorry.
-/
import Derived.Test.Qxb6602433aModsChecked
import GoSem.Claim
import GoSem.ClaimJoined
import GoSem.ClaimMapViews
import Derived.JoinedTies
import Derived.KernelRfl
namespace Go.Proofs.Qxb6602433aMods
/- THE CELL 'sum', in the pinned program and in every row, IS THE sha256 OF THE DUMP (.gsa) THAT Qxb6602433aModsProg.lean LOADS. Nothing in Lean hashes anything: it is a label: what it is worth is what the hold of that sum in a sandbox is worth. -/
noncomputable def Trym.pinned : Pinned := { name := "qxb6602433amods", sum := "e4a0c4500d649245e4e87afbc96ea91c41eeaad685f0eaffaca3a78af5beb3ee", checked := Trym.checked }
namespace Rows
def none {H : Type} : Left H := { results := [], args := [] }

/-- 'zzlaws_api_v1_b1.FnClusterUpgradeOptionsDeepCopyIntoExact': WHATEVER THE INPUT: true; the input reads as it did. -/
def fnClusterUpgradeOptionsDeepCopyIntoExactSpec : ChangeSpec := { name := "fnClusterUpgradeOptionsDeepCopyIntoExact", fn := fun _ => fun
  | [d1, d2, d3, d4, d5, d6, d7, d8] => { results := [.lit (.bool true)], args := [d1, d2, d3, d4, d5, d6, d7, d8] }
  | _ => none }
def fnClusterUpgradeOptionsDeepCopyIntoExactRow : OpenClaim := { program := "qxb6602433amods", sum := "e4a0c4500d649245e4e87afbc96ea91c41eeaad685f0eaffaca3a78af5beb3ee", func := "example.com/rayward/rayward/zzlaws_api_v1_b1.FnClusterUpgradeOptionsDeepCopyIntoExact", spec := "fnClusterUpgradeOptionsDeepCopyIntoExact", make := .lifted ["publicsums"], apart := false }
def FnClusterUpgradeOptionsDeepCopyIntoExactSaid : Prop := fnClusterUpgradeOptionsDeepCopyIntoExactRow.holds Trym.pinned (OpenSpec.ofChange fnClusterUpgradeOptionsDeepCopyIntoExactSpec)

/-- ITS FALSE NEIGHBOUR: 'it returns false'. Refute it at one input. -/
def fnClusterUpgradeOptionsDeepCopyIntoExactWrong : ChangeSpec := { name := "fnClusterUpgradeOptionsDeepCopyIntoExact", fn := fun _ => fun
  | [d1, d2, d3, d4, d5, d6, d7, d8] => { results := [.lit (.bool false)], args := [d1, d2, d3, d4, d5, d6, d7, d8] }
  | _ => none }
def FnClusterUpgradeOptionsDeepCopyIntoExactWrongFalsely : Prop := fnClusterUpgradeOptionsDeepCopyIntoExactRow.holds Trym.pinned (OpenSpec.ofChange fnClusterUpgradeOptionsDeepCopyIntoExactWrong)

/-- 'zzlaws_api_v1_b1.FnClusterUpgradeOptionsDeepCopyIntoSelf': WHATEVER THE INPUT: true; the input reads as it did. -/
def fnClusterUpgradeOptionsDeepCopyIntoSelfSpec : ChangeSpec := { name := "fnClusterUpgradeOptionsDeepCopyIntoSelf", fn := fun _ => fun
  | [d1, d2, d3, d4] => { results := [.lit (.bool true)], args := [d1, d2, d3, d4] }
  | _ => none }
def fnClusterUpgradeOptionsDeepCopyIntoSelfRow : OpenClaim := { program := "qxb6602433amods", sum := "e4a0c4500d649245e4e87afbc96ea91c41eeaad685f0eaffaca3a78af5beb3ee", func := "example.com/rayward/rayward/zzlaws_api_v1_b1.FnClusterUpgradeOptionsDeepCopyIntoSelf", spec := "fnClusterUpgradeOptionsDeepCopyIntoSelf", make := .lifted ["publicsums"], apart := false }
def FnClusterUpgradeOptionsDeepCopyIntoSelfSaid : Prop := fnClusterUpgradeOptionsDeepCopyIntoSelfRow.holds Trym.pinned (OpenSpec.ofChange fnClusterUpgradeOptionsDeepCopyIntoSelfSpec)

/-- ITS FALSE NEIGHBOUR: 'it returns false'. Refute it at one input. -/
def fnClusterUpgradeOptionsDeepCopyIntoSelfWrong : ChangeSpec := { name := "fnClusterUpgradeOptionsDeepCopyIntoSelf", fn := fun _ => fun
  | [d1, d2, d3, d4] => { results := [.lit (.bool false)], args := [d1, d2, d3, d4] }
  | _ => none }
def FnClusterUpgradeOptionsDeepCopyIntoSelfWrongFalsely : Prop := fnClusterUpgradeOptionsDeepCopyIntoSelfRow.holds Trym.pinned (OpenSpec.ofChange fnClusterUpgradeOptionsDeepCopyIntoSelfWrong)

/-- 'zzlaws_api_v1_b1.FnAuthOptionsDeepCopyIntoExact': WHATEVER THE INPUT: true; the input reads as it did. -/
def fnAuthOptionsDeepCopyIntoExactSpec : ChangeSpec := { name := "fnAuthOptionsDeepCopyIntoExact", fn := fun _ => fun
  | [d1, d2, d3, d4, d5, d6] => { results := [.lit (.bool true)], args := [d1, d2, d3, d4, d5, d6] }
  | _ => none }
def fnAuthOptionsDeepCopyIntoExactRow : OpenClaim := { program := "qxb6602433amods", sum := "e4a0c4500d649245e4e87afbc96ea91c41eeaad685f0eaffaca3a78af5beb3ee", func := "example.com/rayward/rayward/zzlaws_api_v1_b1.FnAuthOptionsDeepCopyIntoExact", spec := "fnAuthOptionsDeepCopyIntoExact", make := .lifted ["publicsums"], apart := false }
def FnAuthOptionsDeepCopyIntoExactSaid : Prop := fnAuthOptionsDeepCopyIntoExactRow.holds Trym.pinned (OpenSpec.ofChange fnAuthOptionsDeepCopyIntoExactSpec)

/-- ITS FALSE NEIGHBOUR: 'it returns false'. Refute it at one input. -/
def fnAuthOptionsDeepCopyIntoExactWrong : ChangeSpec := { name := "fnAuthOptionsDeepCopyIntoExact", fn := fun _ => fun
  | [d1, d2, d3, d4, d5, d6] => { results := [.lit (.bool false)], args := [d1, d2, d3, d4, d5, d6] }
  | _ => none }
def FnAuthOptionsDeepCopyIntoExactWrongFalsely : Prop := fnAuthOptionsDeepCopyIntoExactRow.holds Trym.pinned (OpenSpec.ofChange fnAuthOptionsDeepCopyIntoExactWrong)

/-- 'zzlaws_api_v1_b1.FnAuthOptionsDeepCopyIntoSelf': WHATEVER THE INPUT: true; the input reads as it did. -/
def fnAuthOptionsDeepCopyIntoSelfSpec : ChangeSpec := { name := "fnAuthOptionsDeepCopyIntoSelf", fn := fun _ => fun
  | [d1, d2, d3] => { results := [.lit (.bool true)], args := [d1, d2, d3] }
  | _ => none }
def fnAuthOptionsDeepCopyIntoSelfRow : OpenClaim := { program := "qxb6602433amods", sum := "e4a0c4500d649245e4e87afbc96ea91c41eeaad685f0eaffaca3a78af5beb3ee", func := "example.com/rayward/rayward/zzlaws_api_v1_b1.FnAuthOptionsDeepCopyIntoSelf", spec := "fnAuthOptionsDeepCopyIntoSelf", make := .lifted ["publicsums"], apart := false }
def FnAuthOptionsDeepCopyIntoSelfSaid : Prop := fnAuthOptionsDeepCopyIntoSelfRow.holds Trym.pinned (OpenSpec.ofChange fnAuthOptionsDeepCopyIntoSelfSpec)

/-- ITS FALSE NEIGHBOUR: 'it returns false'. Refute it at one input. -/
def fnAuthOptionsDeepCopyIntoSelfWrong : ChangeSpec := { name := "fnAuthOptionsDeepCopyIntoSelf", fn := fun _ => fun
  | [d1, d2, d3] => { results := [.lit (.bool false)], args := [d1, d2, d3] }
  | _ => none }
def FnAuthOptionsDeepCopyIntoSelfWrongFalsely : Prop := fnAuthOptionsDeepCopyIntoSelfRow.holds Trym.pinned (OpenSpec.ofChange fnAuthOptionsDeepCopyIntoSelfWrong)

/-- 'zzlaws_api_v1_b1.FnDeletionConditionDeepCopyIntoExact': WHATEVER THE INPUT: true; the input reads as it did. -/
def fnDeletionConditionDeepCopyIntoExactSpec : ChangeSpec := { name := "fnDeletionConditionDeepCopyIntoExact", fn := fun _ => fun
  | [d1, d2, d3, d4, d5, d6] => { results := [.lit (.bool true)], args := [d1, d2, d3, d4, d5, d6] }
  | _ => none }
def fnDeletionConditionDeepCopyIntoExactRow : OpenClaim := { program := "qxb6602433amods", sum := "e4a0c4500d649245e4e87afbc96ea91c41eeaad685f0eaffaca3a78af5beb3ee", func := "example.com/rayward/rayward/zzlaws_api_v1_b1.FnDeletionConditionDeepCopyIntoExact", spec := "fnDeletionConditionDeepCopyIntoExact", make := .lifted ["publicsums"], apart := false }
def FnDeletionConditionDeepCopyIntoExactSaid : Prop := fnDeletionConditionDeepCopyIntoExactRow.holds Trym.pinned (OpenSpec.ofChange fnDeletionConditionDeepCopyIntoExactSpec)

/-- ITS FALSE NEIGHBOUR: 'it returns false'. Refute it at one input. -/
def fnDeletionConditionDeepCopyIntoExactWrong : ChangeSpec := { name := "fnDeletionConditionDeepCopyIntoExact", fn := fun _ => fun
  | [d1, d2, d3, d4, d5, d6] => { results := [.lit (.bool false)], args := [d1, d2, d3, d4, d5, d6] }
  | _ => none }
def FnDeletionConditionDeepCopyIntoExactWrongFalsely : Prop := fnDeletionConditionDeepCopyIntoExactRow.holds Trym.pinned (OpenSpec.ofChange fnDeletionConditionDeepCopyIntoExactWrong)

/-- 'zzlaws_api_v1_b1.FnDeletionConditionDeepCopyIntoSelf': WHATEVER THE INPUT: true; the input reads as it did. -/
def fnDeletionConditionDeepCopyIntoSelfSpec : ChangeSpec := { name := "fnDeletionConditionDeepCopyIntoSelf", fn := fun _ => fun
  | [d1, d2, d3] => { results := [.lit (.bool true)], args := [d1, d2, d3] }
  | _ => none }
def fnDeletionConditionDeepCopyIntoSelfRow : OpenClaim := { program := "qxb6602433amods", sum := "e4a0c4500d649245e4e87afbc96ea91c41eeaad685f0eaffaca3a78af5beb3ee", func := "example.com/rayward/rayward/zzlaws_api_v1_b1.FnDeletionConditionDeepCopyIntoSelf", spec := "fnDeletionConditionDeepCopyIntoSelf", make := .lifted ["publicsums"], apart := false }
def FnDeletionConditionDeepCopyIntoSelfSaid : Prop := fnDeletionConditionDeepCopyIntoSelfRow.holds Trym.pinned (OpenSpec.ofChange fnDeletionConditionDeepCopyIntoSelfSpec)

/-- ITS FALSE NEIGHBOUR: 'it returns false'. Refute it at one input. -/
def fnDeletionConditionDeepCopyIntoSelfWrong : ChangeSpec := { name := "fnDeletionConditionDeepCopyIntoSelf", fn := fun _ => fun
  | [d1, d2, d3] => { results := [.lit (.bool false)], args := [d1, d2, d3] }
  | _ => none }
def FnDeletionConditionDeepCopyIntoSelfWrongFalsely : Prop := fnDeletionConditionDeepCopyIntoSelfRow.holds Trym.pinned (OpenSpec.ofChange fnDeletionConditionDeepCopyIntoSelfWrong)

end Rows
end Go.Proofs.Qxb6602433aMods
