/-
  No cell of these rows narrows 'for every input' (looked for: loops, veiled, ifaces, maps, wideKeys, modest, calm, conditions, laid).
  DERIVED. THE GIVEN ROWS OF THIS SEAT. 1 by the template 'for every input the law returns true; each argument reads behind the call as it read before'; 0 by the template 'total and deterministic' (their statements: Qxb6613221aModsTotals.lean).
  GIVEN WITH THE SEED: the statements are not yours to turn. If you find one false, say at which input.
  Laid BY PROGRAM, IN A SANDBOX (cutbox-rows.mjs): the forced cells as the released guide's own fill.sh prints them over the translation 4d69cfa4071d7249… (all of the seat's roots in one cut). By AI agents, Wed Nov 11 2026. No macro, syntax, notation, axiom, sorry.
-/
import Derived.Test.Qxb6613221aModsChecked
import GoSem.Claim
import GoSem.ClaimJoined
import GoSem.ClaimMapViews
import Derived.JoinedTies
import Derived.KernelRfl
namespace Go.Proofs.Qxb6613221aMods
/- THE CELL 'sum', in the pinned program and in every row, IS THE sha256 OF THE DUMP (.gsa) THAT Qxb6613221aModsProg.lean LOADS. Nothing in Lean hashes anything: it is a label: what it is worth is what the hold of that sum in a sandbox is worth. -/
noncomputable def Trym.pinned : Pinned := { name := "qxb6613221amods", sum := "4d69cfa4071d72495ed32e2d00c1f775215d11492d48c720a67bbf203e801d7e", checked := Trym.checked }
namespace Rows
def none {H : Type} : Left H := { results := [], args := [] }

/-- 'zzlaws_internal_hasher_b1.FnMadeAtExactlyOneParallelism': WHATEVER THE INPUT: true; the input reads as it did. -/
def fnMadeAtExactlyOneParallelismSpec : ChangeSpec := { name := "fnMadeAtExactlyOneParallelism", fn := fun _ => fun
  | [d1, d2, d3, d4] => { results := [.lit (.bool true)], args := [d1, d2, d3, d4] }
  | _ => none }
def fnMadeAtExactlyOneParallelismRow : OpenClaim := { program := "qxb6613221amods", sum := "4d69cfa4071d72495ed32e2d00c1f775215d11492d48c720a67bbf203e801d7e", func := "example.com/latchkey/latchkey/zzlaws_internal_hasher_b1.FnMadeAtExactlyOneParallelism", spec := "fnMadeAtExactlyOneParallelism", make := .lifted ["publicsums"], apart := false }
def FnMadeAtExactlyOneParallelismSaid : Prop := fnMadeAtExactlyOneParallelismRow.holds Trym.pinned (OpenSpec.ofChange fnMadeAtExactlyOneParallelismSpec)

/-- ITS FALSE NEIGHBOUR: 'it returns false'. Refute it at one input. -/
def fnMadeAtExactlyOneParallelismWrong : ChangeSpec := { name := "fnMadeAtExactlyOneParallelism", fn := fun _ => fun
  | [d1, d2, d3, d4] => { results := [.lit (.bool false)], args := [d1, d2, d3, d4] }
  | _ => none }
def FnMadeAtExactlyOneParallelismWrongFalsely : Prop := fnMadeAtExactlyOneParallelismRow.holds Trym.pinned (OpenSpec.ofChange fnMadeAtExactlyOneParallelismWrong)

end Rows
end Go.Proofs.Qxb6613221aMods
