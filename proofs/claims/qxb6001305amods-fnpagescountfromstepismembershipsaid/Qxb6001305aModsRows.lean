/-
  No cell of these rows narrows 'for every input' (looked for: loops, veiled, ifaces, maps, wideKeys, modest, calm, conditions, laid).
  DERIVED. THE GIVEN ROWS OF THIS SEAT. 2 by the template 'for every input the law returns true; each argument reads behind the call as it read before'; 0 by the template 'total and deterministic' (their statements: Qxb6001305aModsTotals.lean).
  GIVEN WITH THE SEED: the statements are not yours to turn. If you find one false, say at which input.
  Laid BY PROGRAM, IN A SANDBOX (cutbox-rows.mjs): the forced cells as the released guide's own fill.sh prints them over the translation 9aa5d2790dac4571… (all of the seat's roots in one cut). By AI agents, Wed Nov 11 2026. No macro, syntax, notation, axiom, sorry.
-/
import Derived.Test.Qxb6001305aModsChecked
import GoSem.Claim
import GoSem.ClaimJoined
import GoSem.ClaimMapViews
import Derived.JoinedTies
import Derived.KernelRfl
namespace Go.Proofs.Qxb6001305aMods
/- THE CELL 'sum', in the pinned program and in every row, IS THE sha256 OF THE DUMP (.gsa) THAT Qxb6001305aModsProg.lean LOADS. Nothing in Lean hashes anything: it is a label: what it is worth is what the hold of that sum in a sandbox is worth. -/
noncomputable def Trym.pinned : Pinned := { name := "qxb6001305amods", sum := "9aa5d2790dac45710f45fbb0187ab4bcc64aa30c6fca4b8cab76147590c5123f", checked := Trym.checked }
namespace Rows
def none {H : Type} : Left H := { results := [], args := [] }

/-- 'zzlaws_internal_repo_b1.FnPagesCountFromStepIsMembership': WHATEVER THE INPUT: true; the input reads as it did. -/
def fnPagesCountFromStepIsMembershipSpec : ChangeSpec := { name := "fnPagesCountFromStepIsMembership", fn := fun _ => fun
  | [d1, d2] => { results := [.lit (.bool true)], args := [d1, d2] }
  | _ => none }
def fnPagesCountFromStepIsMembershipRow : OpenClaim := { program := "qxb6001305amods", sum := "9aa5d2790dac45710f45fbb0187ab4bcc64aa30c6fca4b8cab76147590c5123f", func := "example.com/tidebook/tidebook/zzlaws_internal_repo_b1.FnPagesCountFromStepIsMembership", spec := "fnPagesCountFromStepIsMembership", make := .lifted ["publicsums"], apart := false }
def FnPagesCountFromStepIsMembershipSaid : Prop := fnPagesCountFromStepIsMembershipRow.holds Trym.pinned (OpenSpec.ofChange fnPagesCountFromStepIsMembershipSpec)

/-- ITS FALSE NEIGHBOUR: 'it returns false'. Refute it at one input. -/
def fnPagesCountFromStepIsMembershipWrong : ChangeSpec := { name := "fnPagesCountFromStepIsMembership", fn := fun _ => fun
  | [d1, d2] => { results := [.lit (.bool false)], args := [d1, d2] }
  | _ => none }
def FnPagesCountFromStepIsMembershipWrongFalsely : Prop := fnPagesCountFromStepIsMembershipRow.holds Trym.pinned (OpenSpec.ofChange fnPagesCountFromStepIsMembershipWrong)

/-- 'zzlaws_internal_repo_b1.FnPagesCountFromBoundedByRoom': WHATEVER THE INPUT: true; the input reads as it did. -/
def fnPagesCountFromBoundedByRoomSpec : ChangeSpec := { name := "fnPagesCountFromBoundedByRoom", fn := fun _ => fun
  | [d1, d2] => { results := [.lit (.bool true)], args := [d1, d2] }
  | _ => none }
def fnPagesCountFromBoundedByRoomRow : OpenClaim := { program := "qxb6001305amods", sum := "9aa5d2790dac45710f45fbb0187ab4bcc64aa30c6fca4b8cab76147590c5123f", func := "example.com/tidebook/tidebook/zzlaws_internal_repo_b1.FnPagesCountFromBoundedByRoom", spec := "fnPagesCountFromBoundedByRoom", make := .lifted ["publicsums"], apart := false }
def FnPagesCountFromBoundedByRoomSaid : Prop := fnPagesCountFromBoundedByRoomRow.holds Trym.pinned (OpenSpec.ofChange fnPagesCountFromBoundedByRoomSpec)

/-- ITS FALSE NEIGHBOUR: 'it returns false'. Refute it at one input. -/
def fnPagesCountFromBoundedByRoomWrong : ChangeSpec := { name := "fnPagesCountFromBoundedByRoom", fn := fun _ => fun
  | [d1, d2] => { results := [.lit (.bool false)], args := [d1, d2] }
  | _ => none }
def FnPagesCountFromBoundedByRoomWrongFalsely : Prop := fnPagesCountFromBoundedByRoomRow.holds Trym.pinned (OpenSpec.ofChange fnPagesCountFromBoundedByRoomWrong)

end Rows
end Go.Proofs.Qxb6001305aMods
