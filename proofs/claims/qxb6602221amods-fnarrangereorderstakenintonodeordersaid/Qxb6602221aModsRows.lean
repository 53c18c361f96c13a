/-
  No cell of these rows narrows 'for every input' (looked for: loops, veiled, ifaces, maps, wideKeys, modest, calm, conditions, laid).
  DERIVED. THE GIVEN ROWS OF THIS SEAT. 2 by the template 'for every input the law returns true; each argument reads behind the call as it read before'; 0 by the template 'total and deterministic' (their statements: Qxb6602221aModsTotals.lean).
  GIVEN WITH THE SEED: the statements are not yours to turn. If you find one false, say at which input.
  Laid BY PROGRAM, IN A SANDBOX (cutbox-rows.mjs): the forced cells as the released guide's own fill.sh prints them over the translation 1cfaaaddb6a44a57… (all of the seat's roots in one cut). By AI agents, Wed Nov 11 2026. No macro, syntax, notation, axiom, sorry.
-/
import Derived.Test.Qxb6602221aModsChecked
import GoSem.Claim
import GoSem.ClaimJoined
import GoSem.ClaimMapViews
import Derived.JoinedTies
import Derived.KernelRfl
namespace Go.Proofs.Qxb6602221aMods
/- THE CELL 'sum', in the pinned program and in every row, IS THE sha256 OF THE DUMP (.gsa) THAT Qxb6602221aModsProg.lean LOADS. Nothing in Lean hashes anything: it is a label: what it is worth is what the hold of that sum in a sandbox is worth. -/
noncomputable def Trym.pinned : Pinned := { name := "qxb6602221amods", sum := "1cfaaaddb6a44a579c09d9df7dabdcc1c762d7c025ef6d018ebee83b5c2a5b31", checked := Trym.checked }
namespace Rows
def none {H : Type} : Left H := { results := [], args := [] }

/-- 'zzlaws_pkg_placement_b1.FnArrangeReordersTakenIntoNodeOrder': WHATEVER THE INPUT: true; the input reads as it did. -/
def fnArrangeReordersTakenIntoNodeOrderSpec : ChangeSpec := { name := "fnArrangeReordersTakenIntoNodeOrder", fn := fun _ => fun
  | [d1, d2] => { results := [.lit (.bool true)], args := [d1, d2] }
  | _ => none }
def fnArrangeReordersTakenIntoNodeOrderRow : OpenClaim := { program := "qxb6602221amods", sum := "1cfaaaddb6a44a579c09d9df7dabdcc1c762d7c025ef6d018ebee83b5c2a5b31", func := "example.com/longhaul/longhaul/zzlaws_pkg_placement_b1.FnArrangeReordersTakenIntoNodeOrder", spec := "fnArrangeReordersTakenIntoNodeOrder", make := .lifted ["publicsums"], apart := false }
def FnArrangeReordersTakenIntoNodeOrderSaid : Prop := fnArrangeReordersTakenIntoNodeOrderRow.holds Trym.pinned (OpenSpec.ofChange fnArrangeReordersTakenIntoNodeOrderSpec)

/-- ITS FALSE NEIGHBOUR: 'it returns false'. Refute it at one input. -/
def fnArrangeReordersTakenIntoNodeOrderWrong : ChangeSpec := { name := "fnArrangeReordersTakenIntoNodeOrder", fn := fun _ => fun
  | [d1, d2] => { results := [.lit (.bool false)], args := [d1, d2] }
  | _ => none }
def FnArrangeReordersTakenIntoNodeOrderWrongFalsely : Prop := fnArrangeReordersTakenIntoNodeOrderRow.holds Trym.pinned (OpenSpec.ofChange fnArrangeReordersTakenIntoNodeOrderWrong)

/-- 'zzlaws_pkg_placement_b1.FnArrangeIdempotent': WHATEVER THE INPUT: true; the input reads as it did. -/
def fnArrangeIdempotentSpec : ChangeSpec := { name := "fnArrangeIdempotent", fn := fun _ => fun
  | [d1, d2, d3] => { results := [.lit (.bool true)], args := [d1, d2, d3] }
  | _ => none }
def fnArrangeIdempotentRow : OpenClaim := { program := "qxb6602221amods", sum := "1cfaaaddb6a44a579c09d9df7dabdcc1c762d7c025ef6d018ebee83b5c2a5b31", func := "example.com/longhaul/longhaul/zzlaws_pkg_placement_b1.FnArrangeIdempotent", spec := "fnArrangeIdempotent", make := .lifted ["publicsums"], apart := false }
def FnArrangeIdempotentSaid : Prop := fnArrangeIdempotentRow.holds Trym.pinned (OpenSpec.ofChange fnArrangeIdempotentSpec)

/-- ITS FALSE NEIGHBOUR: 'it returns false'. Refute it at one input. -/
def fnArrangeIdempotentWrong : ChangeSpec := { name := "fnArrangeIdempotent", fn := fun _ => fun
  | [d1, d2, d3] => { results := [.lit (.bool false)], args := [d1, d2, d3] }
  | _ => none }
def FnArrangeIdempotentWrongFalsely : Prop := fnArrangeIdempotentRow.holds Trym.pinned (OpenSpec.ofChange fnArrangeIdempotentWrong)

end Rows
end Go.Proofs.Qxb6602221aMods
