/-
  DERIVED. GIVEN WITH THE SEED: THE CARDS: each row of Qxb6603473aDoorRows.lean that lists a variable, with what it lists TIED to the program's text (the seventh form; the later family's looks); each row that meets fmt, with fmt's text TOLD by the authors' own Lean function (tested against real Go, not proved from fmt's source: count such statements apart). THE CARD IS WHAT COUNTS. Prove the row's statement (the work); the ties are given (Qxb6603473aDoorTie.lean); close each card by the builder's one call (the guide's Derived/Test/ToyasCard.lean, 'card_holds'). Laid BY PROGRAM, IN A SANDBOX (cutbox-door.mjs). By AI agents, Wed Nov 11 2026. No macro, syntax, notation, axiom, sorry.
-/
import Derived.Test.Qxb6603473aDoorRows
import GoSem.ClaimSeven
namespace Go.Proofs.Qxb6603473aDoor
namespace Rows

/-- THE TIED CARD OF 'zzlaws_root_b1.FnArrayLiteralDecodesToKeptIds'. -/
def fnArrayLiteralDecodesToKeptIdsCard : Claim7 := { stood := { row := fnArrayLiteralDecodesToKeptIdsRow, standIns := [], harness := (true, "46168e4276261781f3cdf860212e11a34b280a6ee7173ba7667437560a40210e"), looks := true }, kinds := [], alts := [], laidByText := true, laidKinds := [.data, .data, .data, .sentinel, .sentinel], laidTests := true, laidLooks := .later }
def FnArrayLiteralDecodesToKeptIdsCardSaid : Prop := Claim7.holds Tryd.pinned (.plain (OpenSpec.ofChange fnArrayLiteralDecodesToKeptIdsSpec)) fnArrayLiteralDecodesToKeptIdsCard

/-- THE TIED CARD OF 'zzlaws_root_b1.FnArrayLiteralSplitsOverConcatenation'. -/
def fnArrayLiteralSplitsOverConcatenationCard : Claim7 := { stood := { row := fnArrayLiteralSplitsOverConcatenationRow, standIns := [], harness := (true, "46168e4276261781f3cdf860212e11a34b280a6ee7173ba7667437560a40210e"), looks := true }, kinds := [], alts := [], laidByText := true, laidKinds := [.data, .data, .data, .sentinel, .sentinel], laidTests := true, laidLooks := .later }
def FnArrayLiteralSplitsOverConcatenationCardSaid : Prop := Claim7.holds Tryd.pinned (.plain (OpenSpec.ofChange fnArrayLiteralSplitsOverConcatenationSpec)) fnArrayLiteralSplitsOverConcatenationCard
end Rows
end Go.Proofs.Qxb6603473aDoor
