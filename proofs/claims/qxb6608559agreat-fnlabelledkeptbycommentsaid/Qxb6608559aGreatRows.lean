/-
  No cell of these rows narrows 'for every input' (looked for: loops, veiled, ifaces, maps, wideKeys, modest, calm, conditions, laid).
  DERIVED. THE GIVEN ROWS OF THIS SEAT. 2 by the template 'for every input the law returns true; each argument reads behind the call as it read before'; 0 by the template 'total and deterministic' (their statements: Qxb6608559aGreatTotals.lean).
  GIVEN WITH THE SEED: the statements are not yours to turn. If you find one false, say at which input.
  Laid BY PROGRAM, IN A SANDBOX (cutbox-rows.mjs): the forced cells as the released guide's own fill.sh prints them over the translation 722e5478d6080276… (all of the seat's roots in one cut). By AI agents, Wed Nov 11 2026. No macro, syntax, notation, axiom, sorry.
-/
import Derived.Test.Qxb6608559aGreatChecked
import GoSem.Claim
import GoSem.ClaimJoined
import GoSem.ClaimMapViews
import Derived.JoinedTies
import Derived.KernelRfl
namespace Go.Proofs.Qxb6608559aGreat
/- THE CELL 'sum', in the pinned program and in every row, IS THE sha256 OF THE DUMP (.gsa) THAT Qxb6608559aGreatProg.lean LOADS. Nothing in Lean hashes anything: it is a label: what it is worth is what the hold of that sum in a sandbox is worth. -/
noncomputable def Tryz.pinned : Pinned := { name := "qxb6608559agreat", sum := "722e5478d6080276c131af8aff7b27ee0ab67c926e24389062c5517eedeaff69", checked := Tryz.checked }
namespace Rows
def none {H : Type} : Left H := { results := [], args := [] }

/-- 'zzlaws_internal_ir_b1.FnLabelledKeptByComment': WHATEVER THE INPUT: true; the input reads as it did. -/
def fnLabelledKeptByCommentSpec : ChangeSpec := { name := "fnLabelledKeptByComment", fn := fun _ => fun
  | [d1, d2, d3, d4] => { results := [.lit (.bool true)], args := [d1, d2, d3, d4] }
  | _ => none }
def fnLabelledKeptByCommentRow : OpenClaim := { program := "qxb6608559agreat", sum := "722e5478d6080276c131af8aff7b27ee0ab67c926e24389062c5517eedeaff69", func := "example.com/asmsmith/asmsmith/zzlaws_internal_ir_b1.FnLabelledKeptByComment", spec := "fnLabelledKeptByComment", plainKeys := false, apart := false }
def FnLabelledKeptByCommentSaid : Prop := fnLabelledKeptByCommentRow.holds Tryz.pinned (OpenSpec.ofChange fnLabelledKeptByCommentSpec)

/-- ITS FALSE NEIGHBOUR: 'it returns false'. Refute it at one input. -/
def fnLabelledKeptByCommentWrong : ChangeSpec := { name := "fnLabelledKeptByComment", fn := fun _ => fun
  | [d1, d2, d3, d4] => { results := [.lit (.bool false)], args := [d1, d2, d3, d4] }
  | _ => none }
def FnLabelledKeptByCommentWrongFalsely : Prop := fnLabelledKeptByCommentRow.holds Tryz.pinned (OpenSpec.ofChange fnLabelledKeptByCommentWrong)

/-- 'zzlaws_internal_ir_b1.FnLabelledMarkInRun': WHATEVER THE INPUT: true; the input reads as it did. -/
def fnLabelledMarkInRunSpec : ChangeSpec := { name := "fnLabelledMarkInRun", fn := fun _ => fun
  | [d1, d2, d3, d4, d5] => { results := [.lit (.bool true)], args := [d1, d2, d3, d4, d5] }
  | _ => none }
def fnLabelledMarkInRunRow : OpenClaim := { program := "qxb6608559agreat", sum := "722e5478d6080276c131af8aff7b27ee0ab67c926e24389062c5517eedeaff69", func := "example.com/asmsmith/asmsmith/zzlaws_internal_ir_b1.FnLabelledMarkInRun", spec := "fnLabelledMarkInRun", plainKeys := false, apart := false }
def FnLabelledMarkInRunSaid : Prop := fnLabelledMarkInRunRow.holds Tryz.pinned (OpenSpec.ofChange fnLabelledMarkInRunSpec)

/-- ITS FALSE NEIGHBOUR: 'it returns false'. Refute it at one input. -/
def fnLabelledMarkInRunWrong : ChangeSpec := { name := "fnLabelledMarkInRun", fn := fun _ => fun
  | [d1, d2, d3, d4, d5] => { results := [.lit (.bool false)], args := [d1, d2, d3, d4, d5] }
  | _ => none }
def FnLabelledMarkInRunWrongFalsely : Prop := fnLabelledMarkInRunRow.holds Tryz.pinned (OpenSpec.ofChange fnLabelledMarkInRunWrong)

end Rows
end Go.Proofs.Qxb6608559aGreat
