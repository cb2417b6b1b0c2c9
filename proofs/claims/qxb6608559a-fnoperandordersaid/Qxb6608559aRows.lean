/-
  No cell of these rows narrows 'for every input' (looked for: loops, veiled, ifaces, maps, wideKeys, modest, calm, conditions, laid).
  DERIVED. THE GIVEN ROWS OF THIS SEAT. 2 by the template 'for every input the law returns true; each argument reads behind the call as it read before'; 0 by the template 'total and deterministic' (their statements: Qxb6608559aTotals.lean).
  GIVEN WITH THE SEED: the statements are not yours to turn. If you find one false, say at which input.
  Laid BY PROGRAM, IN A SANDBOX (cutbox-rows.mjs): the forced cells as the released guide's own fill.sh prints them over the translation 2090919623f452ea… (all of the seat's roots in one cut). By AI agents, Wed Nov 11 2026. No macro, syntax, notation, axiom, sorry.
-/
import Derived.Test.Qxb6608559aChecked
import GoSem.Claim
import GoSem.ClaimJoined
import GoSem.ClaimMapViews
import Derived.JoinedTies
import Derived.KernelRfl
namespace Go.Proofs.Qxb6608559a
/- THE CELL 'sum', in the pinned program and in every row, IS THE sha256 OF THE DUMP (.gsa) THAT Qxb6608559aProg.lean LOADS. Nothing in Lean hashes anything: it is a label: what it is worth is what the hold of that sum in a sandbox is worth. -/
noncomputable def Try.pinned : Pinned := { name := "qxb6608559a", sum := "2090919623f452ea124a0b583d1a15ac581764e5e82f06aace2cb7061a917ab1", checked := Try.checked }
namespace Rows
def none {H : Type} : Left H := { results := [], args := [] }

/-- 'zzlaws_internal_ir_b1.FnOperandRoundTrip': WHATEVER THE INPUT: true; the input reads as it did. -/
def fnOperandRoundTripSpec : ChangeSpec := { name := "fnOperandRoundTrip", fn := fun _ => fun
  | [d1, d2] => { results := [.lit (.bool true)], args := [d1, d2] }
  | _ => none }
def fnOperandRoundTripRow : OpenClaim := { program := "qxb6608559a", sum := "2090919623f452ea124a0b583d1a15ac581764e5e82f06aace2cb7061a917ab1", func := "example.com/asmsmith/asmsmith/zzlaws_internal_ir_b1.FnOperandRoundTrip", spec := "fnOperandRoundTrip", apart := false }
def FnOperandRoundTripSaid : Prop := fnOperandRoundTripRow.holds Try.pinned (OpenSpec.ofChange fnOperandRoundTripSpec)

/-- ITS FALSE NEIGHBOUR: 'it returns false'. Refute it at one input. -/
def fnOperandRoundTripWrong : ChangeSpec := { name := "fnOperandRoundTrip", fn := fun _ => fun
  | [d1, d2] => { results := [.lit (.bool false)], args := [d1, d2] }
  | _ => none }
def FnOperandRoundTripWrongFalsely : Prop := fnOperandRoundTripRow.holds Try.pinned (OpenSpec.ofChange fnOperandRoundTripWrong)

/-- 'zzlaws_internal_ir_b1.FnOperandOrder': WHATEVER THE INPUT: true; the input reads as it did. -/
def fnOperandOrderSpec : ChangeSpec := { name := "fnOperandOrder", fn := fun _ => fun
  | [d1, d2, d3, d4] => { results := [.lit (.bool true)], args := [d1, d2, d3, d4] }
  | _ => none }
def fnOperandOrderRow : OpenClaim := { program := "qxb6608559a", sum := "2090919623f452ea124a0b583d1a15ac581764e5e82f06aace2cb7061a917ab1", func := "example.com/asmsmith/asmsmith/zzlaws_internal_ir_b1.FnOperandOrder", spec := "fnOperandOrder", apart := false }
def FnOperandOrderSaid : Prop := fnOperandOrderRow.holds Try.pinned (OpenSpec.ofChange fnOperandOrderSpec)

/-- ITS FALSE NEIGHBOUR: 'it returns false'. Refute it at one input. -/
def fnOperandOrderWrong : ChangeSpec := { name := "fnOperandOrder", fn := fun _ => fun
  | [d1, d2, d3, d4] => { results := [.lit (.bool false)], args := [d1, d2, d3, d4] }
  | _ => none }
def FnOperandOrderWrongFalsely : Prop := fnOperandOrderRow.holds Try.pinned (OpenSpec.ofChange fnOperandOrderWrong)

end Rows
end Go.Proofs.Qxb6608559a
