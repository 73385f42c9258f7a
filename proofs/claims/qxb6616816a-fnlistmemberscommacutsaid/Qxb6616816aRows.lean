/-
  No cell of these rows narrows 'for every input' (looked for: loops, veiled, ifaces, maps, wideKeys, modest, calm, conditions, laid).
  DERIVED. THE GIVEN ROWS OF THIS SEAT. 2 by the template 'for every input the law returns true; each argument reads behind the call as it read before'; 0 by the template 'total and deterministic' (their statements: Qxb6616816aTotals.lean).
  GIVEN WITH THE SEED: the statements are not yours to turn. If you find one false, say at which input.
  Laid BY PROGRAM, IN A SANDBOX (cutbox-rows.mjs): the forced cells as the released guide's own fill.sh prints them over the translation a103737d7e590bd8… (all of the seat's roots in one cut). By AI agents, Wed Nov 11 2026. No macro, syntax, notation, axiom, sorry.
-/
import Derived.Test.Qxb6616816aChecked
import GoSem.Claim
import GoSem.ClaimJoined
import GoSem.ClaimMapViews
import Derived.JoinedTies
import Derived.KernelRfl
namespace Go.Proofs.Qxb6616816a
/- THE CELL 'sum', in the pinned program and in every row, IS THE sha256 OF THE DUMP (.gsa) THAT Qxb6616816aProg.lean LOADS. Nothing in Lean hashes anything: it is a label: what it is worth is what the hold of that sum in a sandbox is worth. -/
noncomputable def Try.pinned : Pinned := { name := "qxb6616816a", sum := "a103737d7e590bd8123a503c70c428195300f008fd11d4472a4d36e0bb2bb86e", checked := Try.checked }
namespace Rows
def none {H : Type} : Left H := { results := [], args := [] }

/-- 'zzlaws_root_b1.FnListMembersPerLine': WHATEVER THE INPUT: true; the input reads as it did. -/
def fnListMembersPerLineSpec : ChangeSpec := { name := "fnListMembersPerLine", fn := fun _ => fun
  | [d] => { results := [.lit (.bool true)], args := [d] }
  | _ => none }
def fnListMembersPerLineRow : OpenClaim := { program := "qxb6616816a", sum := "a103737d7e590bd8123a503c70c428195300f008fd11d4472a4d36e0bb2bb86e", func := "example.com/tideline/tideline/zzlaws_root_b1.FnListMembersPerLine", spec := "fnListMembersPerLine", unfollowed := true, recurses := true, apart := false }
def FnListMembersPerLineSaid : Prop := fnListMembersPerLineRow.holds Try.pinned (OpenSpec.ofChange fnListMembersPerLineSpec)

/-- ITS FALSE NEIGHBOUR: 'it returns false'. Refute it at one input. -/
def fnListMembersPerLineWrong : ChangeSpec := { name := "fnListMembersPerLine", fn := fun _ => fun
  | [d] => { results := [.lit (.bool false)], args := [d] }
  | _ => none }
def FnListMembersPerLineWrongFalsely : Prop := fnListMembersPerLineRow.holds Try.pinned (OpenSpec.ofChange fnListMembersPerLineWrong)

/-- 'zzlaws_root_b1.FnListMembersCommaCut': WHATEVER THE INPUT: true; the input reads as it did. -/
def fnListMembersCommaCutSpec : ChangeSpec := { name := "fnListMembersCommaCut", fn := fun _ => fun
  | [d1, d2, d3] => { results := [.lit (.bool true)], args := [d1, d2, d3] }
  | _ => none }
def fnListMembersCommaCutRow : OpenClaim := { program := "qxb6616816a", sum := "a103737d7e590bd8123a503c70c428195300f008fd11d4472a4d36e0bb2bb86e", func := "example.com/tideline/tideline/zzlaws_root_b1.FnListMembersCommaCut", spec := "fnListMembersCommaCut", unfollowed := true, recurses := true, apart := false }
def FnListMembersCommaCutSaid : Prop := fnListMembersCommaCutRow.holds Try.pinned (OpenSpec.ofChange fnListMembersCommaCutSpec)

/-- ITS FALSE NEIGHBOUR: 'it returns false'. Refute it at one input. -/
def fnListMembersCommaCutWrong : ChangeSpec := { name := "fnListMembersCommaCut", fn := fun _ => fun
  | [d1, d2, d3] => { results := [.lit (.bool false)], args := [d1, d2, d3] }
  | _ => none }
def FnListMembersCommaCutWrongFalsely : Prop := fnListMembersCommaCutRow.holds Try.pinned (OpenSpec.ofChange fnListMembersCommaCutWrong)

end Rows
end Go.Proofs.Qxb6616816a
