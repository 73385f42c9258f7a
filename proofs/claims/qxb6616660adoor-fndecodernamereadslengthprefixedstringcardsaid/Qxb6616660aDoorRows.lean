/-
  NARROWER THAN 'FOR EVERY INPUT', by the rows' own cells (each row's printed sentence says how): FnDecoderNameReadsLengthPrefixedString: ifaces, laid · FnDecoderNameTwiceKeepsItsError: ifaces, laid.
  DERIVED. THE GIVEN ROWS OF THIS SEAT. 2 by the template 'for every input the law returns true; each argument reads behind the call as it read before'; 0 by the template 'total and deterministic' (their statements: Qxb6616660aDoorTotals.lean).
  GIVEN WITH THE SEED: the statements are not yours to turn. If you find one false, say at which input.
  Laid BY PROGRAM, IN A SANDBOX (cutbox-rows.mjs): the forced cells as the released guide's own fill.sh prints them over the translation c95676123e376e25… (all of the seat's roots in one cut). By AI agents, Wed Nov 11 2026. No macro, syntax, notation, axiom, sorry.
-/
import Derived.Test.Qxb6616660aDoorChecked
import GoSem.Claim
import GoSem.ClaimJoined
import GoSem.ClaimMapViews
import Derived.JoinedTies
import Derived.KernelRfl
namespace Go.Proofs.Qxb6616660aDoor
/- THE CELL 'sum', in the pinned program and in every row, IS THE sha256 OF THE DUMP (.gsa) THAT Qxb6616660aDoorProg.lean LOADS. Nothing in Lean hashes anything: it is a label: what it is worth is what the hold of that sum in a sandbox is worth. -/
noncomputable def Tryd.pinned : Pinned := { name := "qxb6616660adoor", sum := "c95676123e376e25152260ebc37088af38740e56fb28e72b98f473070a911b26", checked := Tryd.checked }
namespace Rows
def none {H : Type} : Left H := { results := [], args := [] }

/- WHAT THE LISTED PACKAGE-LEVEL VARIABLES READ AS WHEN THE CALL BEGINS. Each datum BY PROGRAM (the guide's laid-datum.mjs) off the statement by which the dump's own 'gosem.cut.vars' lays the variable. In a bare row this is a premise. The card (Qxb6616660aDoorCards.lean) ties it to the program's text. -/
def laid_example_com_quantrel_quantrel_errShort {H : Type} : DataW H := .iface "*errors.errorString" (.ptr (.agg [.lit (.string [105, 116, 32, 105, 115, 32, 99, 117, 116, 32, 115, 104, 111, 114, 116])]))

/-- 'zzlaws_root_b1.FnDecoderNameReadsLengthPrefixedString': WHATEVER THE INPUT: true; the input reads as it did. -/
def fnDecoderNameReadsLengthPrefixedStringSpec : ChangeSpec := { name := "fnDecoderNameReadsLengthPrefixedString", vars := ["example.com/quantrel/quantrel.errShort"], fn := fun _ => fun
  | [d1, d2, d3, g1] => { results := [.lit (.bool true)], args := [d1, d2, d3], vars := [g1] }
  | _ => none }
def fnDecoderNameReadsLengthPrefixedStringRow : OpenClaim := { program := "qxb6616660adoor", sum := "c95676123e376e25152260ebc37088af38740e56fb28e72b98f473070a911b26", func := "example.com/quantrel/quantrel/zzlaws_root_b1.FnDecoderNameReadsLengthPrefixedString", spec := "fnDecoderNameReadsLengthPrefixedString", named := ["example.com/quantrel/quantrel.errShort"], ifaces := true, apart := false, laid := [("example.com/quantrel/quantrel.errShort", laid_example_com_quantrel_quantrel_errShort)] }
def FnDecoderNameReadsLengthPrefixedStringSaid : Prop := fnDecoderNameReadsLengthPrefixedStringRow.holds Tryd.pinned (OpenSpec.ofChange fnDecoderNameReadsLengthPrefixedStringSpec)

/-- ITS FALSE NEIGHBOUR: 'it returns false'. Refute it at one input. -/
def fnDecoderNameReadsLengthPrefixedStringWrong : ChangeSpec := { name := "fnDecoderNameReadsLengthPrefixedString", vars := ["example.com/quantrel/quantrel.errShort"], fn := fun _ => fun
  | [d1, d2, d3, g1] => { results := [.lit (.bool false)], args := [d1, d2, d3], vars := [g1] }
  | _ => none }
def FnDecoderNameReadsLengthPrefixedStringWrongFalsely : Prop := fnDecoderNameReadsLengthPrefixedStringRow.holds Tryd.pinned (OpenSpec.ofChange fnDecoderNameReadsLengthPrefixedStringWrong)

/-- 'zzlaws_root_b1.FnDecoderNameTwiceKeepsItsError': WHATEVER THE INPUT: true; the input reads as it did. -/
def fnDecoderNameTwiceKeepsItsErrorSpec : ChangeSpec := { name := "fnDecoderNameTwiceKeepsItsError", vars := ["example.com/quantrel/quantrel.errShort"], fn := fun _ => fun
  | [d, g1] => { results := [.lit (.bool true)], args := [d], vars := [g1] }
  | _ => none }
def fnDecoderNameTwiceKeepsItsErrorRow : OpenClaim := { program := "qxb6616660adoor", sum := "c95676123e376e25152260ebc37088af38740e56fb28e72b98f473070a911b26", func := "example.com/quantrel/quantrel/zzlaws_root_b1.FnDecoderNameTwiceKeepsItsError", spec := "fnDecoderNameTwiceKeepsItsError", named := ["example.com/quantrel/quantrel.errShort"], ifaces := true, apart := false, laid := [("example.com/quantrel/quantrel.errShort", laid_example_com_quantrel_quantrel_errShort)] }
def FnDecoderNameTwiceKeepsItsErrorSaid : Prop := fnDecoderNameTwiceKeepsItsErrorRow.holds Tryd.pinned (OpenSpec.ofChange fnDecoderNameTwiceKeepsItsErrorSpec)

/-- ITS FALSE NEIGHBOUR: 'it returns false'. Refute it at one input. -/
def fnDecoderNameTwiceKeepsItsErrorWrong : ChangeSpec := { name := "fnDecoderNameTwiceKeepsItsError", vars := ["example.com/quantrel/quantrel.errShort"], fn := fun _ => fun
  | [d, g1] => { results := [.lit (.bool false)], args := [d], vars := [g1] }
  | _ => none }
def FnDecoderNameTwiceKeepsItsErrorWrongFalsely : Prop := fnDecoderNameTwiceKeepsItsErrorRow.holds Tryd.pinned (OpenSpec.ofChange fnDecoderNameTwiceKeepsItsErrorWrong)

end Rows
end Go.Proofs.Qxb6616660aDoor
