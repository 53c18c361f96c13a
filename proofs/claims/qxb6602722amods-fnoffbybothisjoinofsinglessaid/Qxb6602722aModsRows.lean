/-
  No cell of these rows narrows 'for every input' (looked for: loops, veiled, ifaces, maps, wideKeys, modest, calm, conditions, laid).
  DERIVED. THE GIVEN ROWS OF THIS SEAT. 2 by the template 'for every input the law returns true; each argument reads behind the call as it read before'; 0 by the template 'total and deterministic' (their statements: Qxb6602722aModsTotals.lean).
  GIVEN WITH THE SEED: the statements are not yours to turn. If you find one false, say at which input.
  Laid BY PROGRAM, IN A SANDBOX (cutbox-rows.mjs): the forced cells as the released guide's own fill.sh prints them over the translation 53a95b29b33c4ed3… (all of the seat's roots in one cut). By AI agents, Wed Nov 11 2026. No macro, syntax, notation, axiom, sorry.
-/
import Derived.Test.Qxb6602722aModsChecked
import GoSem.Claim
import GoSem.ClaimJoined
import GoSem.ClaimMapViews
import Derived.JoinedTies
import Derived.KernelRfl
namespace Go.Proofs.Qxb6602722aMods
/- THE CELL 'sum', in the pinned program and in every row, IS THE sha256 OF THE DUMP (.gsa) THAT Qxb6602722aModsProg.lean LOADS. Nothing in Lean hashes anything: it is a label: what it is worth is what the hold of that sum in a sandbox is worth. -/
noncomputable def Trym.pinned : Pinned := { name := "qxb6602722amods", sum := "53a95b29b33c4ed30793a222c4a4ff9d22f846568e8c29acb66fdfa3dd1fd637", checked := Trym.checked }
namespace Rows
def none {H : Type} : Left H := { results := [], args := [] }

/-- 'zzlaws_cli_b1.FnOffByBothIsJoinOfSingles': WHATEVER THE INPUT: true; the input reads as it did. -/
def fnOffByBothIsJoinOfSinglesSpec : ChangeSpec := { name := "fnOffByBothIsJoinOfSingles", fn := fun _ => fun
  | [d1, d2] => { results := [.lit (.bool true)], args := [d1, d2] }
  | _ => none }
def fnOffByBothIsJoinOfSinglesRow : OpenClaim := { program := "qxb6602722amods", sum := "53a95b29b33c4ed30793a222c4a4ff9d22f846568e8c29acb66fdfa3dd1fd637", func := "example.com/apexprobe/apexprobe/zzlaws_cli_b1.FnOffByBothIsJoinOfSingles", spec := "fnOffByBothIsJoinOfSingles", make := .lifted ["publicsums"], apart := false }
def FnOffByBothIsJoinOfSinglesSaid : Prop := fnOffByBothIsJoinOfSinglesRow.holds Trym.pinned (OpenSpec.ofChange fnOffByBothIsJoinOfSinglesSpec)

/-- ITS FALSE NEIGHBOUR: 'it returns false'. Refute it at one input. -/
def fnOffByBothIsJoinOfSinglesWrong : ChangeSpec := { name := "fnOffByBothIsJoinOfSingles", fn := fun _ => fun
  | [d1, d2] => { results := [.lit (.bool false)], args := [d1, d2] }
  | _ => none }
def FnOffByBothIsJoinOfSinglesWrongFalsely : Prop := fnOffByBothIsJoinOfSinglesRow.holds Trym.pinned (OpenSpec.ofChange fnOffByBothIsJoinOfSinglesWrong)

/-- 'zzlaws_cli_b1.FnOffByNamesWhatCounts': WHATEVER THE INPUT: true; the input reads as it did. -/
def fnOffByNamesWhatCountsSpec : ChangeSpec := { name := "fnOffByNamesWhatCounts", fn := fun _ => fun
  | [d1, d2, d3, d4, d5, d6] => { results := [.lit (.bool true)], args := [d1, d2, d3, d4, d5, d6] }
  | _ => none }
def fnOffByNamesWhatCountsRow : OpenClaim := { program := "qxb6602722amods", sum := "53a95b29b33c4ed30793a222c4a4ff9d22f846568e8c29acb66fdfa3dd1fd637", func := "example.com/apexprobe/apexprobe/zzlaws_cli_b1.FnOffByNamesWhatCounts", spec := "fnOffByNamesWhatCounts", make := .lifted ["publicsums"], apart := false }
def FnOffByNamesWhatCountsSaid : Prop := fnOffByNamesWhatCountsRow.holds Trym.pinned (OpenSpec.ofChange fnOffByNamesWhatCountsSpec)

/-- ITS FALSE NEIGHBOUR: 'it returns false'. Refute it at one input. -/
def fnOffByNamesWhatCountsWrong : ChangeSpec := { name := "fnOffByNamesWhatCounts", fn := fun _ => fun
  | [d1, d2, d3, d4, d5, d6] => { results := [.lit (.bool false)], args := [d1, d2, d3, d4, d5, d6] }
  | _ => none }
def FnOffByNamesWhatCountsWrongFalsely : Prop := fnOffByNamesWhatCountsRow.holds Trym.pinned (OpenSpec.ofChange fnOffByNamesWhatCountsWrong)

end Rows
end Go.Proofs.Qxb6602722aMods
