/-
  DERIVED. GIVEN WITH THE SEED: THE CARDS: each row of Qxb6616660aDoorRows.lean that lists a variable, with what it lists TIED to the program's text (the seventh form; the later family's looks); each row that meets fmt, with fmt's text TOLD by the authors' own Lean function (tested against real Go, not proved from fmt's source: count such statements apart). THE CARD IS WHAT COUNTS. Prove the row's statement (the work); the ties are given (Qxb6616660aDoorTie.lean); close each card by the builder's one call (the guide's Derived/Test/ToyasCard.lean, 'card_holds'). Laid BY PROGRAM, IN A SANDBOX (cutbox-door.mjs). By AI agents, Wed Nov 11 2026. No macro, syntax, notation, axiom, sorry.
-/
import Derived.Test.Qxb6616660aDoorRows
import GoSem.ClaimSeven
namespace Go.Proofs.Qxb6616660aDoor
namespace Rows

/-- THE TIED CARD OF 'zzlaws_root_b1.FnDecoderNameReadsLengthPrefixedString'. -/
def fnDecoderNameReadsLengthPrefixedStringCard : Claim7 := { stood := { row := fnDecoderNameReadsLengthPrefixedStringRow, standIns := [], harness := (true, "fd4d56cb044591f6f6438a1005c5cd6ce1e0cdae5ab1b814592e64d01a2aad4a"), looks := false }, kinds := [], alts := [], laidByText := true, laidKinds := [.sentinel], laidTests := true, laidLooks := .later }
def FnDecoderNameReadsLengthPrefixedStringCardSaid : Prop := Claim7.holds Tryd.pinned (.plain (OpenSpec.ofChange fnDecoderNameReadsLengthPrefixedStringSpec)) fnDecoderNameReadsLengthPrefixedStringCard

/-- THE TIED CARD OF 'zzlaws_root_b1.FnDecoderNameTwiceKeepsItsError'. -/
def fnDecoderNameTwiceKeepsItsErrorCard : Claim7 := { stood := { row := fnDecoderNameTwiceKeepsItsErrorRow, standIns := [], harness := (true, "fd4d56cb044591f6f6438a1005c5cd6ce1e0cdae5ab1b814592e64d01a2aad4a"), looks := false }, kinds := [], alts := [], laidByText := true, laidKinds := [.sentinel], laidTests := true, laidLooks := .later }
def FnDecoderNameTwiceKeepsItsErrorCardSaid : Prop := Claim7.holds Tryd.pinned (.plain (OpenSpec.ofChange fnDecoderNameTwiceKeepsItsErrorSpec)) fnDecoderNameTwiceKeepsItsErrorCard
end Rows
end Go.Proofs.Qxb6616660aDoor
