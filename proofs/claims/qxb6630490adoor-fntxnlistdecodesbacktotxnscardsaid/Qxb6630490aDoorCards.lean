/-
  DERIVED. GIVEN WITH THE SEED: THE CARDS: each row of Qxb6630490aDoorRows.lean that lists a variable, with what it lists TIED to the program's text (the seventh form; the later family's looks); each row that meets fmt, with fmt's text TOLD by the authors' own Lean function (tested against real Go, not proved from fmt's source: count such statements apart). THE CARD IS WHAT COUNTS. Prove the row's statement (the work); the ties are given (Qxb6630490aDoorTie.lean); close each card by the builder's one call (the guide's Derived/Test/ToyasCard.lean, 'card_holds'). Laid BY PROGRAM, IN A SANDBOX (cutbox-door.mjs). By AI agents, Wed Nov 11 2026. No macro, syntax, notation, axiom, sorry.
-/
import Derived.Test.Qxb6630490aDoorRows
import GoSem.ClaimSeven
namespace Go.Proofs.Qxb6630490aDoor
namespace Rows

/-- THE TIED CARD OF 'zzlaws_schedule_b1.FnTxnListSplitsAroundAnyElement'. -/
def fnTxnListSplitsAroundAnyElementCard : Claim7 := { stood := { row := fnTxnListSplitsAroundAnyElementRow, standIns := [], harness := (true, "b556913c1a71e4212c05f09b11e8d77c51151fb6fb75ce21785fa2cfa5b91be0"), looks := false }, kinds := [], alts := [], laidByText := true, laidKinds := [.data, .data, .data], laidTests := true, laidLooks := .later }
def FnTxnListSplitsAroundAnyElementCardSaid : Prop := Claim7.holds Tryd.pinned (.plain (OpenSpec.ofChange fnTxnListSplitsAroundAnyElementSpec)) fnTxnListSplitsAroundAnyElementCard

/-- THE TIED CARD OF 'zzlaws_schedule_b1.FnTxnListDecodesBackToTxns'. -/
def fnTxnListDecodesBackToTxnsCard : Claim7 := { stood := { row := fnTxnListDecodesBackToTxnsRow, standIns := [], harness := (true, "b556913c1a71e4212c05f09b11e8d77c51151fb6fb75ce21785fa2cfa5b91be0"), looks := false }, kinds := [], alts := [], laidByText := true, laidKinds := [.data, .data, .data], laidTests := true, laidLooks := .later }
def FnTxnListDecodesBackToTxnsCardSaid : Prop := Claim7.holds Tryd.pinned (.plain (OpenSpec.ofChange fnTxnListDecodesBackToTxnsSpec)) fnTxnListDecodesBackToTxnsCard
end Rows
end Go.Proofs.Qxb6630490aDoor
