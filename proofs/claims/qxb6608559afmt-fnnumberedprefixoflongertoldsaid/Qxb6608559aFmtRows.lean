/-
  No cell of these rows narrows 'for every input' (looked for: loops, veiled, ifaces, maps, wideKeys, modest, calm, conditions, laid).
  DERIVED. THE GIVEN ROWS OF THIS SEAT. 1 by the template 'for every input the law returns true; each argument reads behind the call as it read before'; 0 by the template 'total and deterministic' (their statements: Qxb6608559aFmtTotals.lean).
  GIVEN WITH THE SEED: the statements are not yours to turn. If you find one false, say at which input.
  Laid BY PROGRAM, IN A SANDBOX (cutbox-rows.mjs): the forced cells as the released guide's own fill.sh prints them over the translation 61f550f7fb0e39fb… (all of the seat's roots in one cut). By AI agents, Wed Nov 11 2026. No macro, syntax, notation, axiom, sorry.
-/
import Derived.Test.Qxb6608559aFmtChecked
import GoSem.Claim
import GoSem.ClaimJoined
import GoSem.ClaimMapViews
import Derived.JoinedTies
import Derived.KernelRfl
namespace Go.Proofs.Qxb6608559aFmt
/- THE CELL 'sum', in the pinned program and in every row, IS THE sha256 OF THE DUMP (.gsa) THAT Qxb6608559aFmtProg.lean LOADS. Nothing in Lean hashes anything: it is a label: what it is worth is what the hold of that sum in a sandbox is worth. -/
noncomputable def Tryf.pinned : Pinned := { name := "qxb6608559afmt", sum := "61f550f7fb0e39fbb1b92d7a65ea2438498163aa5f608328fbd2a1d2c79cc774", checked := Tryf.checked }
namespace Rows
def none {H : Type} : Left H := { results := [], args := [] }

/-- 'zzlaws_internal_ir_b1.FnNumberedPrefixOfLonger': WHATEVER THE INPUT: true; the input reads as it did. -/
def fnNumberedPrefixOfLongerSpec : ChangeSpec := { name := "fnNumberedPrefixOfLonger", fn := fun _ => fun
  | [d1, d2, d3] => { results := [.lit (.bool true)], args := [d1, d2, d3] }
  | _ => none }
def fnNumberedPrefixOfLongerRow : OpenClaim := { program := "qxb6608559afmt", sum := "61f550f7fb0e39fbb1b92d7a65ea2438498163aa5f608328fbd2a1d2c79cc774", func := "example.com/asmsmith/asmsmith/zzlaws_internal_ir_b1.FnNumberedPrefixOfLonger", spec := "fnNumberedPrefixOfLonger", stops := ["fmt.Sprint"], inPlace := ["fmt.Sprint"], apart := false }
/-- NO THEOREM (fmt's text is open here; it may be false): for the released tool's asking of the row's closed facts alone. THE STATEMENT IS 'FnNumberedPrefixOfLongerToldSaid' (Qxb6608559aFmtCards.lean). -/
def FnNumberedPrefixOfLongerFormAsk : Prop := fnNumberedPrefixOfLongerRow.holds Tryf.pinned (OpenSpec.ofChange fnNumberedPrefixOfLongerSpec)

/-- ITS FALSE NEIGHBOUR: 'it returns false'. Refute it at one input. -/
def fnNumberedPrefixOfLongerWrong : ChangeSpec := { name := "fnNumberedPrefixOfLonger", fn := fun _ => fun
  | [d1, d2, d3] => { results := [.lit (.bool false)], args := [d1, d2, d3] }
  | _ => none }
def FnNumberedPrefixOfLongerWrongFormAsk : Prop := fnNumberedPrefixOfLongerRow.holds Tryf.pinned (OpenSpec.ofChange fnNumberedPrefixOfLongerWrong)

end Rows
end Go.Proofs.Qxb6608559aFmt
