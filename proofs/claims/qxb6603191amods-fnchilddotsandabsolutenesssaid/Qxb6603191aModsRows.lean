/-
  No cell of these rows narrows 'for every input' (looked for: loops, veiled, ifaces, maps, wideKeys, modest, calm, conditions, laid).
  DERIVED. THE GIVEN ROWS OF THIS SEAT. 2 by the template 'for every input the law returns true; each argument reads behind the call as it read before'; 0 by the template 'total and deterministic' (their statements: Qxb6603191aModsTotals.lean).
  GIVEN WITH THE SEED: the statements are not yours to turn. If you find one false, say at which input.
  Laid BY PROGRAM, IN A SANDBOX (cutbox-rows.mjs): the forced cells as the released guide's own fill.sh prints them over the translation 95c656e521d9b9a3… (all of the seat's roots in one cut). By AI agents, Wed Nov 11 2026. No macro, syntax, notation, axiom, sorry.
-/
import Derived.Test.Qxb6603191aModsChecked
import GoSem.Claim
import GoSem.ClaimJoined
import GoSem.ClaimMapViews
import Derived.JoinedTies
import Derived.KernelRfl
namespace Go.Proofs.Qxb6603191aMods
/- THE CELL 'sum', in the pinned program and in every row, IS THE sha256 OF THE DUMP (.gsa) THAT Qxb6603191aModsProg.lean LOADS. Nothing in Lean hashes anything: it is a label: what it is worth is what the hold of that sum in a sandbox is worth. -/
noncomputable def Trym.pinned : Pinned := { name := "qxb6603191amods", sum := "95c656e521d9b9a3bb897249a66fc2bceeb4eb9ca21fb90785c81bcac9a181bf", checked := Trym.checked }
namespace Rows
def none {H : Type} : Left H := { results := [], args := [] }

/-- 'zzlaws_internal_zone_b1.FnChildEqualityCaseTable': WHATEVER THE INPUT: true; the input reads as it did. -/
def fnChildEqualityCaseTableSpec : ChangeSpec := { name := "fnChildEqualityCaseTable", fn := fun _ => fun
  | [d1, d2, d3, d4] => { results := [.lit (.bool true)], args := [d1, d2, d3, d4] }
  | _ => none }
def fnChildEqualityCaseTableRow : OpenClaim := { program := "qxb6603191amods", sum := "95c656e521d9b9a3bb897249a66fc2bceeb4eb9ca21fb90785c81bcac9a181bf", func := "example.com/nameweave/nameweave/zzlaws_internal_zone_b1.FnChildEqualityCaseTable", spec := "fnChildEqualityCaseTable", make := .lifted ["publicsums"], apart := false }
def FnChildEqualityCaseTableSaid : Prop := fnChildEqualityCaseTableRow.holds Trym.pinned (OpenSpec.ofChange fnChildEqualityCaseTableSpec)

/-- ITS FALSE NEIGHBOUR: 'it returns false'. Refute it at one input. -/
def fnChildEqualityCaseTableWrong : ChangeSpec := { name := "fnChildEqualityCaseTable", fn := fun _ => fun
  | [d1, d2, d3, d4] => { results := [.lit (.bool false)], args := [d1, d2, d3, d4] }
  | _ => none }
def FnChildEqualityCaseTableWrongFalsely : Prop := fnChildEqualityCaseTableRow.holds Trym.pinned (OpenSpec.ofChange fnChildEqualityCaseTableWrong)

/-- 'zzlaws_internal_zone_b1.FnChildDotsAndAbsoluteness': WHATEVER THE INPUT: true; the input reads as it did. -/
def fnChildDotsAndAbsolutenessSpec : ChangeSpec := { name := "fnChildDotsAndAbsoluteness", fn := fun _ => fun
  | [d1, d2] => { results := [.lit (.bool true)], args := [d1, d2] }
  | _ => none }
def fnChildDotsAndAbsolutenessRow : OpenClaim := { program := "qxb6603191amods", sum := "95c656e521d9b9a3bb897249a66fc2bceeb4eb9ca21fb90785c81bcac9a181bf", func := "example.com/nameweave/nameweave/zzlaws_internal_zone_b1.FnChildDotsAndAbsoluteness", spec := "fnChildDotsAndAbsoluteness", make := .lifted ["publicsums"], apart := false }
def FnChildDotsAndAbsolutenessSaid : Prop := fnChildDotsAndAbsolutenessRow.holds Trym.pinned (OpenSpec.ofChange fnChildDotsAndAbsolutenessSpec)

/-- ITS FALSE NEIGHBOUR: 'it returns false'. Refute it at one input. -/
def fnChildDotsAndAbsolutenessWrong : ChangeSpec := { name := "fnChildDotsAndAbsoluteness", fn := fun _ => fun
  | [d1, d2] => { results := [.lit (.bool false)], args := [d1, d2] }
  | _ => none }
def FnChildDotsAndAbsolutenessWrongFalsely : Prop := fnChildDotsAndAbsolutenessRow.holds Trym.pinned (OpenSpec.ofChange fnChildDotsAndAbsolutenessWrong)

end Rows
end Go.Proofs.Qxb6603191aMods
