/-
  DERIVED. GIVEN WITH THE SEED: THE CARDS: each row of Qxb6614887aDoorRows.lean that lists a variable, with what it lists TIED to the program's text (the seventh form; the later family's looks); each row that meets fmt, with fmt's text TOLD by the authors' own Lean function (tested against real Go, not proved from fmt's source: count such statements apart). THE CARD IS WHAT COUNTS. Prove the row's statement (the work); the ties are given (Qxb6614887aDoorTie.lean); close each card by the builder's one call (the guide's Derived/Test/ToyasCard.lean, 'card_holds'). Laid BY PROGRAM, IN A SANDBOX (cutbox-door.mjs). By AI agents, Wed Nov 11 2026. No macro, syntax, notation, axiom, sorry.
-/
import Derived.Test.Qxb6614887aDoorRows
import GoSem.ClaimSeven
namespace Go.Proofs.Qxb6614887aDoor
namespace Rows

/-- THE TIED CARD OF 'zzlaws_root_b1.FnStringReadsBackCanonically'. -/
def fnStringReadsBackCanonicallyCard : Claim7 := { stood := { row := fnStringReadsBackCanonicallyRow, standIns := [], harness := (true, "649ffcca59eb024a2f51d76d92eb09b1a77d779bd00a2d1b0efc982bcbf8bcf3"), looks := false }, kinds := [], alts := [], laidByText := true, laidKinds := [.data, .data, .data], laidTests := true, laidLooks := .later }
def FnStringReadsBackCanonicallyCardSaid : Prop := Claim7.holds Tryd.pinned (.plain (OpenSpec.ofChange fnStringReadsBackCanonicallySpec)) fnStringReadsBackCanonicallyCard

/-- THE TIED CARD OF 'zzlaws_root_b1.FnStringJoinsWallTextAndCounterText'. -/
def fnStringJoinsWallTextAndCounterTextCard : Claim7 := { stood := { row := fnStringJoinsWallTextAndCounterTextRow, standIns := [], harness := (true, "649ffcca59eb024a2f51d76d92eb09b1a77d779bd00a2d1b0efc982bcbf8bcf3"), looks := false }, kinds := [], alts := [], laidByText := true, laidKinds := [.data, .data, .data], laidTests := true, laidLooks := .later }
def FnStringJoinsWallTextAndCounterTextCardSaid : Prop := Claim7.holds Tryd.pinned (.plain (OpenSpec.ofChange fnStringJoinsWallTextAndCounterTextSpec)) fnStringJoinsWallTextAndCounterTextCard
end Rows
end Go.Proofs.Qxb6614887aDoor
