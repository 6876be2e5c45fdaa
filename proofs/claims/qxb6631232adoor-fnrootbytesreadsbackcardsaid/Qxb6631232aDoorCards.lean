/-
  DERIVED. GIVEN WITH THE SEED: THE CARDS: each row of Qxb6631232aDoorRows.lean that lists a variable, with what it lists TIED to the program's text (the seventh form; the later family's looks); each row that meets fmt, with fmt's text TOLD by the authors' own Lean function (tested against real Go, not proved from fmt's source: count such statements apart). THE CARD IS WHAT COUNTS. Prove the row's statement (the work); the ties are given (Qxb6631232aDoorTie.lean); close each card by the builder's one call (the guide's Derived/Test/ToyasCard.lean, 'card_holds'). Laid BY PROGRAM, IN A SANDBOX (cutbox-door.mjs). By AI agents, Wed Nov 11 2026. No macro, syntax, notation, axiom, sorry.
-/
import Derived.Test.Qxb6631232aDoorRows
import GoSem.ClaimSeven
namespace Go.Proofs.Qxb6631232aDoor
namespace Rows

/-- THE TIED CARD OF 'zzlaws_naming_b1.FnRootBytesSplitsAtAnyCut'. -/
def fnRootBytesSplitsAtAnyCutCard : Claim7 := { stood := { row := fnRootBytesSplitsAtAnyCutRow, standIns := [], harness := (true, "fb7ac46c1ca86610d4b1707aab2f14e1f7dcac574ff6ad87e09e48eb303863e2"), looks := false }, kinds := [], alts := [], laidByText := true, laidKinds := [.data, .data, .data], laidTests := true, laidLooks := .later }
def FnRootBytesSplitsAtAnyCutCardSaid : Prop := Claim7.holds Tryd.pinned (.plain (OpenSpec.ofChange fnRootBytesSplitsAtAnyCutSpec)) fnRootBytesSplitsAtAnyCutCard

/-- THE TIED CARD OF 'zzlaws_naming_b1.FnRootBytesReadsBack'. -/
def fnRootBytesReadsBackCard : Claim7 := { stood := { row := fnRootBytesReadsBackRow, standIns := [], harness := (true, "fb7ac46c1ca86610d4b1707aab2f14e1f7dcac574ff6ad87e09e48eb303863e2"), looks := false }, kinds := [], alts := [], laidByText := true, laidKinds := [.data, .data, .data], laidTests := true, laidLooks := .later }
def FnRootBytesReadsBackCardSaid : Prop := Claim7.holds Tryd.pinned (.plain (OpenSpec.ofChange fnRootBytesReadsBackSpec)) fnRootBytesReadsBackCard
end Rows
end Go.Proofs.Qxb6631232aDoor
