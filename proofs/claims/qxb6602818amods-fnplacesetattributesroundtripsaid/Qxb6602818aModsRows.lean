/-
  No cell of these rows narrows 'for every input' (looked for: loops, veiled, ifaces, maps, wideKeys, modest, calm, conditions, laid).
  DERIVED. THE GIVEN ROWS OF THIS SEAT. 4 by the template 'for every input the law returns true; each argument reads behind the call as it read before'; 0 by the template 'total and deterministic' (their statements: Qxb6602818aModsTotals.lean).
  GIVEN WITH THE SEED: the statements are not yours to turn. If you find one false, say at which input.
  Laid BY PROGRAM, IN A SANDBOX (cutbox-rows.mjs): the forced cells as the released guide's own fill.sh prints them over the translation c54202f3de52a17d… (all of the seat's roots in one cut). By AI agents, Wed Nov 11 2026. No macro, syntax, notation, axiom, sorry.
-/
import Derived.Test.Qxb6602818aModsChecked
import GoSem.Claim
import GoSem.ClaimJoined
import GoSem.ClaimMapViews
import Derived.JoinedTies
import Derived.KernelRfl
namespace Go.Proofs.Qxb6602818aMods
/- THE CELL 'sum', in the pinned program and in every row, IS THE sha256 OF THE DUMP (.gsa) THAT Qxb6602818aModsProg.lean LOADS. Nothing in Lean hashes anything: it is a label: what it is worth is what the hold of that sum in a sandbox is worth. -/
noncomputable def Trym.pinned : Pinned := { name := "qxb6602818amods", sum := "c54202f3de52a17d7c124bd9361a823618e17add1c8a3aa368991da8ae25070f", checked := Trym.checked }
namespace Rows
def none {H : Type} : Left H := { results := [], args := [] }

/-- 'zzlaws_root_b1.FnGroupOtherSpec': WHATEVER THE INPUT: true; the input reads as it did. -/
def fnGroupOtherSpecSpec : ChangeSpec := { name := "fnGroupOtherSpec", fn := fun _ => fun
  | [d] => { results := [.lit (.bool true)], args := [d] }
  | _ => none }
def fnGroupOtherSpecRow : OpenClaim := { program := "qxb6602818amods", sum := "c54202f3de52a17d7c124bd9361a823618e17add1c8a3aa368991da8ae25070f", func := "example.com/veilcred/veilcred/zzlaws_root_b1.FnGroupOtherSpec", spec := "fnGroupOtherSpec", make := .lifted ["publicsums"], apart := false }
def FnGroupOtherSpecSaid : Prop := fnGroupOtherSpecRow.holds Trym.pinned (OpenSpec.ofChange fnGroupOtherSpecSpec)

/-- ITS FALSE NEIGHBOUR: 'it returns false'. Refute it at one input. -/
def fnGroupOtherSpecWrong : ChangeSpec := { name := "fnGroupOtherSpec", fn := fun _ => fun
  | [d] => { results := [.lit (.bool false)], args := [d] }
  | _ => none }
def FnGroupOtherSpecWrongFalsely : Prop := fnGroupOtherSpecRow.holds Trym.pinned (OpenSpec.ofChange fnGroupOtherSpecWrong)

/-- 'zzlaws_root_b1.FnGroupOtherInvolution': WHATEVER THE INPUT: true; the input reads as it did. -/
def fnGroupOtherInvolutionSpec : ChangeSpec := { name := "fnGroupOtherInvolution", fn := fun _ => fun
  | [d] => { results := [.lit (.bool true)], args := [d] }
  | _ => none }
def fnGroupOtherInvolutionRow : OpenClaim := { program := "qxb6602818amods", sum := "c54202f3de52a17d7c124bd9361a823618e17add1c8a3aa368991da8ae25070f", func := "example.com/veilcred/veilcred/zzlaws_root_b1.FnGroupOtherInvolution", spec := "fnGroupOtherInvolution", make := .lifted ["publicsums"], apart := false }
def FnGroupOtherInvolutionSaid : Prop := fnGroupOtherInvolutionRow.holds Trym.pinned (OpenSpec.ofChange fnGroupOtherInvolutionSpec)

/-- ITS FALSE NEIGHBOUR: 'it returns false'. Refute it at one input. -/
def fnGroupOtherInvolutionWrong : ChangeSpec := { name := "fnGroupOtherInvolution", fn := fun _ => fun
  | [d] => { results := [.lit (.bool false)], args := [d] }
  | _ => none }
def FnGroupOtherInvolutionWrongFalsely : Prop := fnGroupOtherInvolutionRow.holds Trym.pinned (OpenSpec.ofChange fnGroupOtherInvolutionWrong)

/-- 'zzlaws_root_b1.FnPlaceSetAttributesRoundTrip': WHATEVER THE INPUT: true; the input reads as it did. -/
def fnPlaceSetAttributesRoundTripSpec : ChangeSpec := { name := "fnPlaceSetAttributesRoundTrip", fn := fun _ => fun
  | [d1, d2] => { results := [.lit (.bool true)], args := [d1, d2] }
  | _ => none }
def fnPlaceSetAttributesRoundTripRow : OpenClaim := { program := "qxb6602818amods", sum := "c54202f3de52a17d7c124bd9361a823618e17add1c8a3aa368991da8ae25070f", func := "example.com/veilcred/veilcred/zzlaws_root_b1.FnPlaceSetAttributesRoundTrip", spec := "fnPlaceSetAttributesRoundTrip", make := .lifted ["publicsums"], apart := false }
def FnPlaceSetAttributesRoundTripSaid : Prop := fnPlaceSetAttributesRoundTripRow.holds Trym.pinned (OpenSpec.ofChange fnPlaceSetAttributesRoundTripSpec)

/-- ITS FALSE NEIGHBOUR: 'it returns false'. Refute it at one input. -/
def fnPlaceSetAttributesRoundTripWrong : ChangeSpec := { name := "fnPlaceSetAttributesRoundTrip", fn := fun _ => fun
  | [d1, d2] => { results := [.lit (.bool false)], args := [d1, d2] }
  | _ => none }
def FnPlaceSetAttributesRoundTripWrongFalsely : Prop := fnPlaceSetAttributesRoundTripRow.holds Trym.pinned (OpenSpec.ofChange fnPlaceSetAttributesRoundTripWrong)

/-- 'zzlaws_root_b1.FnPlaceSetAttributesConcat': WHATEVER THE INPUT: true; the input reads as it did. -/
def fnPlaceSetAttributesConcatSpec : ChangeSpec := { name := "fnPlaceSetAttributesConcat", fn := fun _ => fun
  | [d1, d2, d3, d4, d5] => { results := [.lit (.bool true)], args := [d1, d2, d3, d4, d5] }
  | _ => none }
def fnPlaceSetAttributesConcatRow : OpenClaim := { program := "qxb6602818amods", sum := "c54202f3de52a17d7c124bd9361a823618e17add1c8a3aa368991da8ae25070f", func := "example.com/veilcred/veilcred/zzlaws_root_b1.FnPlaceSetAttributesConcat", spec := "fnPlaceSetAttributesConcat", make := .lifted ["publicsums"], apart := false }
def FnPlaceSetAttributesConcatSaid : Prop := fnPlaceSetAttributesConcatRow.holds Trym.pinned (OpenSpec.ofChange fnPlaceSetAttributesConcatSpec)

/-- ITS FALSE NEIGHBOUR: 'it returns false'. Refute it at one input. -/
def fnPlaceSetAttributesConcatWrong : ChangeSpec := { name := "fnPlaceSetAttributesConcat", fn := fun _ => fun
  | [d1, d2, d3, d4, d5] => { results := [.lit (.bool false)], args := [d1, d2, d3, d4, d5] }
  | _ => none }
def FnPlaceSetAttributesConcatWrongFalsely : Prop := fnPlaceSetAttributesConcatRow.holds Trym.pinned (OpenSpec.ofChange fnPlaceSetAttributesConcatWrong)

end Rows
end Go.Proofs.Qxb6602818aMods
