/-
  No cell of these rows narrows 'for every input' (looked for: loops, veiled, ifaces, maps, wideKeys, modest, calm, conditions, laid).
  DERIVED. THE GIVEN ROWS OF THIS SEAT. 2 by the template 'for every input the law returns true; each argument reads behind the call as it read before'; 0 by the template 'total and deterministic' (their statements: Qxb6630458aTotals.lean).
  GIVEN WITH THE SEED: the statements are not yours to turn. If you find one false, say at which input.
  Laid BY PROGRAM, IN A SANDBOX (cutbox-rows.mjs): the forced cells as the released guide's own fill.sh prints them over the translation 12d3cd69ce336b21… (all of the seat's roots in one cut). By AI agents, Wed Nov 11 2026. No macro, syntax, notation, axiom, sorry.
-/
import Derived.Test.Qxb6630458aChecked
import GoSem.Claim
import GoSem.ClaimJoined
import GoSem.ClaimMapViews
import Derived.JoinedTies
import Derived.KernelRfl
namespace Go.Proofs.Qxb6630458a
/- THE CELL 'sum', in the pinned program and in every row, IS THE sha256 OF THE DUMP (.gsa) THAT Qxb6630458aProg.lean LOADS. Nothing in Lean hashes anything: it is a label: what it is worth is what the hold of that sum in a sandbox is worth. -/
noncomputable def Try.pinned : Pinned := { name := "qxb6630458a", sum := "12d3cd69ce336b21b41e016766126434d6828621e448ed73eeef83bbb9d3b58b", checked := Try.checked }
namespace Rows
def none {H : Type} : Left H := { results := [], args := [] }

/-- 'zzlaws_internal_protocol_b1.FnParseNumberSpec': WHATEVER THE INPUT: true; the input reads as it did. -/
def fnParseNumberSpecSpec : ChangeSpec := { name := "fnParseNumberSpec", fn := fun _ => fun
  | [d1, d2] => { results := [.lit (.bool true)], args := [d1, d2] }
  | _ => none }
def fnParseNumberSpecRow : OpenClaim := { program := "qxb6630458a", sum := "12d3cd69ce336b21b41e016766126434d6828621e448ed73eeef83bbb9d3b58b", func := "example.com/toque/toque/zzlaws_internal_protocol_b1.FnParseNumberSpec", spec := "fnParseNumberSpec", apart := false }
def FnParseNumberSpecSaid : Prop := fnParseNumberSpecRow.holds Try.pinned (OpenSpec.ofChange fnParseNumberSpecSpec)

/-- ITS FALSE NEIGHBOUR: 'it returns false'. Refute it at one input. -/
def fnParseNumberSpecWrong : ChangeSpec := { name := "fnParseNumberSpec", fn := fun _ => fun
  | [d1, d2] => { results := [.lit (.bool false)], args := [d1, d2] }
  | _ => none }
def FnParseNumberSpecWrongFalsely : Prop := fnParseNumberSpecRow.holds Try.pinned (OpenSpec.ofChange fnParseNumberSpecWrong)

/-- 'zzlaws_internal_protocol_b1.FnParseNumberCut': WHATEVER THE INPUT: true; the input reads as it did. -/
def fnParseNumberCutSpec : ChangeSpec := { name := "fnParseNumberCut", fn := fun _ => fun
  | [d1, d2, d3] => { results := [.lit (.bool true)], args := [d1, d2, d3] }
  | _ => none }
def fnParseNumberCutRow : OpenClaim := { program := "qxb6630458a", sum := "12d3cd69ce336b21b41e016766126434d6828621e448ed73eeef83bbb9d3b58b", func := "example.com/toque/toque/zzlaws_internal_protocol_b1.FnParseNumberCut", spec := "fnParseNumberCut", apart := false }
def FnParseNumberCutSaid : Prop := fnParseNumberCutRow.holds Try.pinned (OpenSpec.ofChange fnParseNumberCutSpec)

/-- ITS FALSE NEIGHBOUR: 'it returns false'. Refute it at one input. -/
def fnParseNumberCutWrong : ChangeSpec := { name := "fnParseNumberCut", fn := fun _ => fun
  | [d1, d2, d3] => { results := [.lit (.bool false)], args := [d1, d2, d3] }
  | _ => none }
def FnParseNumberCutWrongFalsely : Prop := fnParseNumberCutRow.holds Try.pinned (OpenSpec.ofChange fnParseNumberCutWrong)

end Rows
end Go.Proofs.Qxb6630458a
