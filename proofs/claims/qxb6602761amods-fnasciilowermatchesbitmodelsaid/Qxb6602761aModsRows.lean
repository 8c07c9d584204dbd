/-
  No cell of these rows narrows 'for every input' (looked for: loops, veiled, ifaces, maps, wideKeys, modest, calm, conditions, laid).
  DERIVED. THE GIVEN ROWS OF THIS SEAT. 4 by the template 'for every input the law returns true; each argument reads behind the call as it read before'; 0 by the template 'total and deterministic' (their statements: Qxb6602761aModsTotals.lean).
  GIVEN WITH THE SEED: the statements are not yours to turn. If you find one false, say at which input.
  Laid BY PROGRAM, IN A SANDBOX (cutbox-rows.mjs): the forced cells as the released guide's own fill.sh prints them over the translation b490a2ea2e3d2747… (all of the seat's roots in one cut). By AI agents, Wed Nov 11 2026. No macro, syntax, notation, axiom, sorry.
-/
import Derived.Test.Qxb6602761aModsChecked
import GoSem.Claim
import GoSem.ClaimJoined
import GoSem.ClaimMapViews
import Derived.JoinedTies
import Derived.KernelRfl
namespace Go.Proofs.Qxb6602761aMods
/- THE CELL 'sum', in the pinned program and in every row, IS THE sha256 OF THE DUMP (.gsa) THAT Qxb6602761aModsProg.lean LOADS. Nothing in Lean hashes anything: it is a label: what it is worth is what the hold of that sum in a sandbox is worth. -/
noncomputable def Trym.pinned : Pinned := { name := "qxb6602761amods", sum := "b490a2ea2e3d2747011e1a8d783628dd4f7b3b0110255ddc064aea3076561b8c", checked := Trym.checked }
namespace Rows
def none {H : Type} : Left H := { results := [], args := [] }

/-- 'zzlaws_root_b1.FnAsciiLowerMatchesBitModel': WHATEVER THE INPUT: true; the input reads as it did. -/
def fnAsciiLowerMatchesBitModelSpec : ChangeSpec := { name := "fnAsciiLowerMatchesBitModel", fn := fun _ => fun
  | [d] => { results := [.lit (.bool true)], args := [d] }
  | _ => none }
def fnAsciiLowerMatchesBitModelRow : OpenClaim := { program := "qxb6602761amods", sum := "b490a2ea2e3d2747011e1a8d783628dd4f7b3b0110255ddc064aea3076561b8c", func := "example.com/fingerpost/fingerpost/zzlaws_root_b1.FnAsciiLowerMatchesBitModel", spec := "fnAsciiLowerMatchesBitModel", make := .lifted ["publicsums"], apart := false }
def FnAsciiLowerMatchesBitModelSaid : Prop := fnAsciiLowerMatchesBitModelRow.holds Trym.pinned (OpenSpec.ofChange fnAsciiLowerMatchesBitModelSpec)

/-- ITS FALSE NEIGHBOUR: 'it returns false'. Refute it at one input. -/
def fnAsciiLowerMatchesBitModelWrong : ChangeSpec := { name := "fnAsciiLowerMatchesBitModel", fn := fun _ => fun
  | [d] => { results := [.lit (.bool false)], args := [d] }
  | _ => none }
def FnAsciiLowerMatchesBitModelWrongFalsely : Prop := fnAsciiLowerMatchesBitModelRow.holds Trym.pinned (OpenSpec.ofChange fnAsciiLowerMatchesBitModelWrong)

/-- 'zzlaws_root_b1.FnAsciiLowerIdempotent': WHATEVER THE INPUT: true; the input reads as it did. -/
def fnAsciiLowerIdempotentSpec : ChangeSpec := { name := "fnAsciiLowerIdempotent", fn := fun _ => fun
  | [d] => { results := [.lit (.bool true)], args := [d] }
  | _ => none }
def fnAsciiLowerIdempotentRow : OpenClaim := { program := "qxb6602761amods", sum := "b490a2ea2e3d2747011e1a8d783628dd4f7b3b0110255ddc064aea3076561b8c", func := "example.com/fingerpost/fingerpost/zzlaws_root_b1.FnAsciiLowerIdempotent", spec := "fnAsciiLowerIdempotent", make := .lifted ["publicsums"], apart := false }
def FnAsciiLowerIdempotentSaid : Prop := fnAsciiLowerIdempotentRow.holds Trym.pinned (OpenSpec.ofChange fnAsciiLowerIdempotentSpec)

/-- ITS FALSE NEIGHBOUR: 'it returns false'. Refute it at one input. -/
def fnAsciiLowerIdempotentWrong : ChangeSpec := { name := "fnAsciiLowerIdempotent", fn := fun _ => fun
  | [d] => { results := [.lit (.bool false)], args := [d] }
  | _ => none }
def FnAsciiLowerIdempotentWrongFalsely : Prop := fnAsciiLowerIdempotentRow.holds Trym.pinned (OpenSpec.ofChange fnAsciiLowerIdempotentWrong)

/-- 'zzlaws_root_b1.FnAsciiLowerFoldsExactlyCase': WHATEVER THE INPUT: true; the input reads as it did. -/
def fnAsciiLowerFoldsExactlyCaseSpec : ChangeSpec := { name := "fnAsciiLowerFoldsExactlyCase", fn := fun _ => fun
  | [d1, d2] => { results := [.lit (.bool true)], args := [d1, d2] }
  | _ => none }
def fnAsciiLowerFoldsExactlyCaseRow : OpenClaim := { program := "qxb6602761amods", sum := "b490a2ea2e3d2747011e1a8d783628dd4f7b3b0110255ddc064aea3076561b8c", func := "example.com/fingerpost/fingerpost/zzlaws_root_b1.FnAsciiLowerFoldsExactlyCase", spec := "fnAsciiLowerFoldsExactlyCase", make := .lifted ["publicsums"], apart := false }
def FnAsciiLowerFoldsExactlyCaseSaid : Prop := fnAsciiLowerFoldsExactlyCaseRow.holds Trym.pinned (OpenSpec.ofChange fnAsciiLowerFoldsExactlyCaseSpec)

/-- ITS FALSE NEIGHBOUR: 'it returns false'. Refute it at one input. -/
def fnAsciiLowerFoldsExactlyCaseWrong : ChangeSpec := { name := "fnAsciiLowerFoldsExactlyCase", fn := fun _ => fun
  | [d1, d2] => { results := [.lit (.bool false)], args := [d1, d2] }
  | _ => none }
def FnAsciiLowerFoldsExactlyCaseWrongFalsely : Prop := fnAsciiLowerFoldsExactlyCaseRow.holds Trym.pinned (OpenSpec.ofChange fnAsciiLowerFoldsExactlyCaseWrong)

/-- 'zzlaws_root_b1.FnWildcardOfCollidesOnlyAtRoot': WHATEVER THE INPUT: true; the input reads as it did. -/
def fnWildcardOfCollidesOnlyAtRootSpec : ChangeSpec := { name := "fnWildcardOfCollidesOnlyAtRoot", fn := fun _ => fun
  | [d1, d2] => { results := [.lit (.bool true)], args := [d1, d2] }
  | _ => none }
def fnWildcardOfCollidesOnlyAtRootRow : OpenClaim := { program := "qxb6602761amods", sum := "b490a2ea2e3d2747011e1a8d783628dd4f7b3b0110255ddc064aea3076561b8c", func := "example.com/fingerpost/fingerpost/zzlaws_root_b1.FnWildcardOfCollidesOnlyAtRoot", spec := "fnWildcardOfCollidesOnlyAtRoot", make := .lifted ["publicsums"], apart := false }
def FnWildcardOfCollidesOnlyAtRootSaid : Prop := fnWildcardOfCollidesOnlyAtRootRow.holds Trym.pinned (OpenSpec.ofChange fnWildcardOfCollidesOnlyAtRootSpec)

/-- ITS FALSE NEIGHBOUR: 'it returns false'. Refute it at one input. -/
def fnWildcardOfCollidesOnlyAtRootWrong : ChangeSpec := { name := "fnWildcardOfCollidesOnlyAtRoot", fn := fun _ => fun
  | [d1, d2] => { results := [.lit (.bool false)], args := [d1, d2] }
  | _ => none }
def FnWildcardOfCollidesOnlyAtRootWrongFalsely : Prop := fnWildcardOfCollidesOnlyAtRootRow.holds Trym.pinned (OpenSpec.ofChange fnWildcardOfCollidesOnlyAtRootWrong)

end Rows
end Go.Proofs.Qxb6602761aMods
