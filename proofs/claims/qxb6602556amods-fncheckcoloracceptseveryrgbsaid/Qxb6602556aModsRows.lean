/-
  No cell of these rows narrows 'for every input' (looked for: loops, veiled, ifaces, maps, wideKeys, modest, calm, conditions, laid).
  DERIVED. THE GIVEN ROWS OF THIS SEAT. 2 by the template 'for every input the law returns true; each argument reads behind the call as it read before'; 0 by the template 'total and deterministic' (their statements: Qxb6602556aModsTotals.lean).
  GIVEN WITH THE SEED: the statements are not yours to turn. If you find one false, say at which input.
  Laid BY PROGRAM, IN A SANDBOX (cutbox-rows.mjs): the forced cells as the released guide's own fill.sh prints them over the translation 4645f9a7adcd10aa… (all of the seat's roots in one cut). By AI agents, Wed Nov 11 2026. No macro, syntax, notation, axiom, sorry.
-/
import Derived.Test.Qxb6602556aModsChecked
import GoSem.Claim
import GoSem.ClaimJoined
import GoSem.ClaimMapViews
import Derived.JoinedTies
import Derived.KernelRfl
namespace Go.Proofs.Qxb6602556aMods
/- THE CELL 'sum', in the pinned program and in every row, IS THE sha256 OF THE DUMP (.gsa) THAT Qxb6602556aModsProg.lean LOADS. Nothing in Lean hashes anything: it is a label: what it is worth is what the hold of that sum in a sandbox is worth. -/
noncomputable def Trym.pinned : Pinned := { name := "qxb6602556amods", sum := "4645f9a7adcd10aa265330574ac62e3b94cd314206bf24c1b4798ff1d437e7b1", checked := Trym.checked }
namespace Rows
def none {H : Type} : Left H := { results := [], args := [] }

/-- 'zzlaws_internal_api_b1.FnCheckColorAcceptsEveryRGB': WHATEVER THE INPUT: true; the input reads as it did. -/
def fnCheckColorAcceptsEveryRGBSpec : ChangeSpec := { name := "fnCheckColorAcceptsEveryRGB", fn := fun _ => fun
  | [d1, d2, d3] => { results := [.lit (.bool true)], args := [d1, d2, d3] }
  | _ => none }
def fnCheckColorAcceptsEveryRGBRow : OpenClaim := { program := "qxb6602556amods", sum := "4645f9a7adcd10aa265330574ac62e3b94cd314206bf24c1b4798ff1d437e7b1", func := "example.com/yarukoto/yarukoto/zzlaws_internal_api_b1.FnCheckColorAcceptsEveryRGB", spec := "fnCheckColorAcceptsEveryRGB", make := .lifted ["publicsums"], apart := false }
def FnCheckColorAcceptsEveryRGBSaid : Prop := fnCheckColorAcceptsEveryRGBRow.holds Trym.pinned (OpenSpec.ofChange fnCheckColorAcceptsEveryRGBSpec)

/-- ITS FALSE NEIGHBOUR: 'it returns false'. Refute it at one input. -/
def fnCheckColorAcceptsEveryRGBWrong : ChangeSpec := { name := "fnCheckColorAcceptsEveryRGB", fn := fun _ => fun
  | [d1, d2, d3] => { results := [.lit (.bool false)], args := [d1, d2, d3] }
  | _ => none }
def FnCheckColorAcceptsEveryRGBWrongFalsely : Prop := fnCheckColorAcceptsEveryRGBRow.holds Trym.pinned (OpenSpec.ofChange fnCheckColorAcceptsEveryRGBWrong)

/-- 'zzlaws_internal_api_b1.FnCheckColorIgnoresLetterCase': WHATEVER THE INPUT: true; the input reads as it did. -/
def fnCheckColorIgnoresLetterCaseSpec : ChangeSpec := { name := "fnCheckColorIgnoresLetterCase", fn := fun _ => fun
  | [d] => { results := [.lit (.bool true)], args := [d] }
  | _ => none }
def fnCheckColorIgnoresLetterCaseRow : OpenClaim := { program := "qxb6602556amods", sum := "4645f9a7adcd10aa265330574ac62e3b94cd314206bf24c1b4798ff1d437e7b1", func := "example.com/yarukoto/yarukoto/zzlaws_internal_api_b1.FnCheckColorIgnoresLetterCase", spec := "fnCheckColorIgnoresLetterCase", make := .lifted ["publicsums"], apart := false }
def FnCheckColorIgnoresLetterCaseSaid : Prop := fnCheckColorIgnoresLetterCaseRow.holds Trym.pinned (OpenSpec.ofChange fnCheckColorIgnoresLetterCaseSpec)

/-- ITS FALSE NEIGHBOUR: 'it returns false'. Refute it at one input. -/
def fnCheckColorIgnoresLetterCaseWrong : ChangeSpec := { name := "fnCheckColorIgnoresLetterCase", fn := fun _ => fun
  | [d] => { results := [.lit (.bool false)], args := [d] }
  | _ => none }
def FnCheckColorIgnoresLetterCaseWrongFalsely : Prop := fnCheckColorIgnoresLetterCaseRow.holds Trym.pinned (OpenSpec.ofChange fnCheckColorIgnoresLetterCaseWrong)

end Rows
end Go.Proofs.Qxb6602556aMods
