/-
  No cell of these rows narrows 'for every input' (looked for: loops, veiled, ifaces, maps, wideKeys, modest, calm, conditions, laid).
  DERIVED. THE GIVEN ROWS OF THIS SEAT. 2 by the template 'for every input the law returns true; each argument reads behind the call as it read before'; 0 by the template 'total and deterministic' (their statements: Qxb6615710aTotals.lean).
  GIVEN WITH THE SEED: the statements are not yours to turn. If you find one false, say at which input.
  Laid BY PROGRAM, IN A SANDBOX (cutbox-rows.mjs): the forced cells as the released guide's own fill.sh prints them over the translation 67d5c0cd67e5a345… (all of the seat's roots in one cut). By AI agents, Wed Nov 11 2026. No macro, syntax, notation, axiom, sorry.
-/
import Derived.Test.Qxb6615710aChecked
import GoSem.Claim
import GoSem.ClaimJoined
import GoSem.ClaimMapViews
import Derived.JoinedTies
import Derived.KernelRfl
namespace Go.Proofs.Qxb6615710a
/- THE CELL 'sum', in the pinned program and in every row, IS THE sha256 OF THE DUMP (.gsa) THAT Qxb6615710aProg.lean LOADS. Nothing in Lean hashes anything: it is a label: what it is worth is what the hold of that sum in a sandbox is worth. -/
noncomputable def Try.pinned : Pinned := { name := "qxb6615710a", sum := "67d5c0cd67e5a345480ffd68a938aa95767064b2908f3135b9fbf3aae4775441", checked := Try.checked }
namespace Rows
def none {H : Type} : Left H := { results := [], args := [] }

/-- 'zzlaws_internal_bucket_b1.FnCountValueKeepsExactSumUnderCarry': WHATEVER THE INPUT: true; the input reads as it did. -/
def fnCountValueKeepsExactSumUnderCarrySpec : ChangeSpec := { name := "fnCountValueKeepsExactSumUnderCarry", fn := fun _ => fun
  | [d1, d2] => { results := [.lit (.bool true)], args := [d1, d2] }
  | _ => none }
def fnCountValueKeepsExactSumUnderCarryRow : OpenClaim := { program := "qxb6615710a", sum := "67d5c0cd67e5a345480ffd68a938aa95767064b2908f3135b9fbf3aae4775441", func := "example.com/oaken-bucket/oaken-bucket/zzlaws_internal_bucket_b1.FnCountValueKeepsExactSumUnderCarry", spec := "fnCountValueKeepsExactSumUnderCarry", apart := false }
def FnCountValueKeepsExactSumUnderCarrySaid : Prop := fnCountValueKeepsExactSumUnderCarryRow.holds Try.pinned (OpenSpec.ofChange fnCountValueKeepsExactSumUnderCarrySpec)

/-- ITS FALSE NEIGHBOUR: 'it returns false'. Refute it at one input. -/
def fnCountValueKeepsExactSumUnderCarryWrong : ChangeSpec := { name := "fnCountValueKeepsExactSumUnderCarry", fn := fun _ => fun
  | [d1, d2] => { results := [.lit (.bool false)], args := [d1, d2] }
  | _ => none }
def FnCountValueKeepsExactSumUnderCarryWrongFalsely : Prop := fnCountValueKeepsExactSumUnderCarryRow.holds Try.pinned (OpenSpec.ofChange fnCountValueKeepsExactSumUnderCarryWrong)

/-- 'zzlaws_internal_bucket_b1.FnCountValueMonotoneInPartWithExactSign': WHATEVER THE INPUT: true; the input reads as it did. -/
def fnCountValueMonotoneInPartWithExactSignSpec : ChangeSpec := { name := "fnCountValueMonotoneInPartWithExactSign", fn := fun _ => fun
  | [d1, d2, d3] => { results := [.lit (.bool true)], args := [d1, d2, d3] }
  | _ => none }
def fnCountValueMonotoneInPartWithExactSignRow : OpenClaim := { program := "qxb6615710a", sum := "67d5c0cd67e5a345480ffd68a938aa95767064b2908f3135b9fbf3aae4775441", func := "example.com/oaken-bucket/oaken-bucket/zzlaws_internal_bucket_b1.FnCountValueMonotoneInPartWithExactSign", spec := "fnCountValueMonotoneInPartWithExactSign", apart := false }
def FnCountValueMonotoneInPartWithExactSignSaid : Prop := fnCountValueMonotoneInPartWithExactSignRow.holds Try.pinned (OpenSpec.ofChange fnCountValueMonotoneInPartWithExactSignSpec)

/-- ITS FALSE NEIGHBOUR: 'it returns false'. Refute it at one input. -/
def fnCountValueMonotoneInPartWithExactSignWrong : ChangeSpec := { name := "fnCountValueMonotoneInPartWithExactSign", fn := fun _ => fun
  | [d1, d2, d3] => { results := [.lit (.bool false)], args := [d1, d2, d3] }
  | _ => none }
def FnCountValueMonotoneInPartWithExactSignWrongFalsely : Prop := fnCountValueMonotoneInPartWithExactSignRow.holds Try.pinned (OpenSpec.ofChange fnCountValueMonotoneInPartWithExactSignWrong)

end Rows
end Go.Proofs.Qxb6615710a
