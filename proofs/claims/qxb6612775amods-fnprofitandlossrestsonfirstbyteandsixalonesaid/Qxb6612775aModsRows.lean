/-
  No cell of these rows narrows 'for every input' (looked for: loops, veiled, ifaces, maps, wideKeys, modest, calm, conditions, laid).
  DERIVED. THE GIVEN ROWS OF THIS SEAT. 2 by the template 'for every input the law returns true; each argument reads behind the call as it read before'; 0 by the template 'total and deterministic' (their statements: Qxb6612775aModsTotals.lean).
  GIVEN WITH THE SEED: the statements are not yours to turn. If you find one false, say at which input.
  Laid BY PROGRAM, IN A SANDBOX (cutbox-rows.mjs): the forced cells as the released guide's own fill.sh prints them over the translation 99caaee83f672475… (all of the seat's roots in one cut). By AI agents, Wed Nov 11 2026. No macro, syntax, notation, axiom, sorry.
-/
import Derived.Test.Qxb6612775aModsChecked
import GoSem.Claim
import GoSem.ClaimJoined
import GoSem.ClaimMapViews
import Derived.JoinedTies
import Derived.KernelRfl
namespace Go.Proofs.Qxb6612775aMods
/- THE CELL 'sum', in the pinned program and in every row, IS THE sha256 OF THE DUMP (.gsa) THAT Qxb6612775aModsProg.lean LOADS. Nothing in Lean hashes anything: it is a label: what it is worth is what the hold of that sum in a sandbox is worth. -/
noncomputable def Trym.pinned : Pinned := { name := "qxb6612775amods", sum := "99caaee83f67247503179062bedae6fc38f168fd708fc188d79f82d7c0483860", checked := Trym.checked }
namespace Rows
def none {H : Type} : Left H := { results := [], args := [] }

/-- 'zzlaws_internal_ledger_b1.FnProfitAndLossAgreesWithAccountCode': WHATEVER THE INPUT: true; the input reads as it did. -/
def fnProfitAndLossAgreesWithAccountCodeSpec : ChangeSpec := { name := "fnProfitAndLossAgreesWithAccountCode", fn := fun _ => fun
  | [d] => { results := [.lit (.bool true)], args := [d] }
  | _ => none }
def fnProfitAndLossAgreesWithAccountCodeRow : OpenClaim := { program := "qxb6612775amods", sum := "99caaee83f67247503179062bedae6fc38f168fd708fc188d79f82d7c0483860", func := "example.com/gongyun/gongyun/zzlaws_internal_ledger_b1.FnProfitAndLossAgreesWithAccountCode", spec := "fnProfitAndLossAgreesWithAccountCode", inPlace := ["internal/bytealg.IndexByteString", "internal/bytealg.IndexString"], named := ["internal/bytealg.MaxLen"], make := .lifted ["publicsums"], apart := false }
def FnProfitAndLossAgreesWithAccountCodeSaid : Prop := fnProfitAndLossAgreesWithAccountCodeRow.holds Trym.pinned (OpenSpec.ofChange fnProfitAndLossAgreesWithAccountCodeSpec)

/-- ITS FALSE NEIGHBOUR: 'it returns false'. Refute it at one input. -/
def fnProfitAndLossAgreesWithAccountCodeWrong : ChangeSpec := { name := "fnProfitAndLossAgreesWithAccountCode", fn := fun _ => fun
  | [d] => { results := [.lit (.bool false)], args := [d] }
  | _ => none }
def FnProfitAndLossAgreesWithAccountCodeWrongFalsely : Prop := fnProfitAndLossAgreesWithAccountCodeRow.holds Trym.pinned (OpenSpec.ofChange fnProfitAndLossAgreesWithAccountCodeWrong)

/-- 'zzlaws_internal_ledger_b1.FnProfitAndLossRestsOnFirstByteAndSixAlone': WHATEVER THE INPUT: true; the input reads as it did. -/
def fnProfitAndLossRestsOnFirstByteAndSixAloneSpec : ChangeSpec := { name := "fnProfitAndLossRestsOnFirstByteAndSixAlone", fn := fun _ => fun
  | [d] => { results := [.lit (.bool true)], args := [d] }
  | _ => none }
def fnProfitAndLossRestsOnFirstByteAndSixAloneRow : OpenClaim := { program := "qxb6612775amods", sum := "99caaee83f67247503179062bedae6fc38f168fd708fc188d79f82d7c0483860", func := "example.com/gongyun/gongyun/zzlaws_internal_ledger_b1.FnProfitAndLossRestsOnFirstByteAndSixAlone", spec := "fnProfitAndLossRestsOnFirstByteAndSixAlone", make := .lifted ["publicsums"], apart := false }
def FnProfitAndLossRestsOnFirstByteAndSixAloneSaid : Prop := fnProfitAndLossRestsOnFirstByteAndSixAloneRow.holds Trym.pinned (OpenSpec.ofChange fnProfitAndLossRestsOnFirstByteAndSixAloneSpec)

/-- ITS FALSE NEIGHBOUR: 'it returns false'. Refute it at one input. -/
def fnProfitAndLossRestsOnFirstByteAndSixAloneWrong : ChangeSpec := { name := "fnProfitAndLossRestsOnFirstByteAndSixAlone", fn := fun _ => fun
  | [d] => { results := [.lit (.bool false)], args := [d] }
  | _ => none }
def FnProfitAndLossRestsOnFirstByteAndSixAloneWrongFalsely : Prop := fnProfitAndLossRestsOnFirstByteAndSixAloneRow.holds Trym.pinned (OpenSpec.ofChange fnProfitAndLossRestsOnFirstByteAndSixAloneWrong)

end Rows
end Go.Proofs.Qxb6612775aMods
