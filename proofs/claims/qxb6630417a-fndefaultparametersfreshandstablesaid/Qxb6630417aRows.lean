/-
  No cell of these rows narrows 'for every input' (looked for: loops, veiled, ifaces, maps, wideKeys, modest, calm, conditions, laid).
  DERIVED. THE GIVEN ROWS OF THIS SEAT. 2 by the template 'for every input the law returns true; each argument reads behind the call as it read before'; 0 by the template 'total and deterministic' (their statements: Qxb6630417aTotals.lean).
  GIVEN WITH THE SEED: the statements are not yours to turn. If you find one false, say at which input.
  Laid BY PROGRAM, IN A SANDBOX (cutbox-rows.mjs): the forced cells as the released guide's own fill.sh prints them over the translation 46a396034e9f4dff… (all of the seat's roots in one cut). By AI agents, Wed Nov 11 2026. No macro, syntax, notation, axiom, sorry.
-/
import Derived.Test.Qxb6630417aChecked
import GoSem.Claim
import GoSem.ClaimJoined
import GoSem.ClaimMapViews
import Derived.JoinedTies
import Derived.KernelRfl
namespace Go.Proofs.Qxb6630417a
/- THE CELL 'sum', in the pinned program and in every row, IS THE sha256 OF THE DUMP (.gsa) THAT Qxb6630417aProg.lean LOADS. Nothing in Lean hashes anything: it is a label: what it is worth is what the hold of that sum in a sandbox is worth. -/
noncomputable def Try.pinned : Pinned := { name := "qxb6630417a", sum := "46a396034e9f4dff93a02d049a565f74b9bc6635ced9ecdde777c0b61de9f704", checked := Try.checked }
namespace Rows
def none {H : Type} : Left H := { results := [], args := [] }

/-- 'zzlaws_fsrs_b1.FnDefaultParametersAreValid': WHATEVER THE INPUT: true; the input reads as it did. -/
def fnDefaultParametersAreValidSpec : ChangeSpec := { name := "fnDefaultParametersAreValid", fn := fun _ => fun
  | [] => { results := [.lit (.bool true)], args := [] }
  | _ => none }
def fnDefaultParametersAreValidRow : OpenClaim := { program := "qxb6630417a", sum := "46a396034e9f4dff93a02d049a565f74b9bc6635ced9ecdde777c0b61de9f704", func := "example.com/word-study-server/word-study-server/zzlaws_fsrs_b1.FnDefaultParametersAreValid", spec := "fnDefaultParametersAreValid", apart := false }
def FnDefaultParametersAreValidSaid : Prop := fnDefaultParametersAreValidRow.holds Try.pinned (OpenSpec.ofChange fnDefaultParametersAreValidSpec)

/-- ITS FALSE NEIGHBOUR: 'it returns false'. Refute it at one input. -/
def fnDefaultParametersAreValidWrong : ChangeSpec := { name := "fnDefaultParametersAreValid", fn := fun _ => fun
  | [] => { results := [.lit (.bool false)], args := [] }
  | _ => none }
def FnDefaultParametersAreValidWrongFalsely : Prop := fnDefaultParametersAreValidRow.holds Try.pinned (OpenSpec.ofChange fnDefaultParametersAreValidWrong)

/-- 'zzlaws_fsrs_b1.FnDefaultParametersFreshAndStable': WHATEVER THE INPUT: true; the input reads as it did. -/
def fnDefaultParametersFreshAndStableSpec : ChangeSpec := { name := "fnDefaultParametersFreshAndStable", fn := fun _ => fun
  | [] => { results := [.lit (.bool true)], args := [] }
  | _ => none }
def fnDefaultParametersFreshAndStableRow : OpenClaim := { program := "qxb6630417a", sum := "46a396034e9f4dff93a02d049a565f74b9bc6635ced9ecdde777c0b61de9f704", func := "example.com/word-study-server/word-study-server/zzlaws_fsrs_b1.FnDefaultParametersFreshAndStable", spec := "fnDefaultParametersFreshAndStable", apart := false }
def FnDefaultParametersFreshAndStableSaid : Prop := fnDefaultParametersFreshAndStableRow.holds Try.pinned (OpenSpec.ofChange fnDefaultParametersFreshAndStableSpec)

/-- ITS FALSE NEIGHBOUR: 'it returns false'. Refute it at one input. -/
def fnDefaultParametersFreshAndStableWrong : ChangeSpec := { name := "fnDefaultParametersFreshAndStable", fn := fun _ => fun
  | [] => { results := [.lit (.bool false)], args := [] }
  | _ => none }
def FnDefaultParametersFreshAndStableWrongFalsely : Prop := fnDefaultParametersFreshAndStableRow.holds Try.pinned (OpenSpec.ofChange fnDefaultParametersFreshAndStableWrong)

end Rows
end Go.Proofs.Qxb6630417a
