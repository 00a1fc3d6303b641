/-
  No cell of these rows narrows 'for every input' (looked for: loops, veiled, ifaces, maps, wideKeys, modest, calm, conditions, laid).
  DERIVED. THE GIVEN ROWS OF THIS SEAT. 1 by the template 'for every input the law returns true; each argument reads behind the call as it read before'; 0 by the template 'total and deterministic' (their statements: Qxb6613951aTotals.lean).
  GIVEN WITH THE SEED: the statements are not yours to turn. If you find one false, say at which input.
  Laid BY PROGRAM, IN A SANDBOX (cutbox-rows.mjs): the forced cells as the released guide's own fill.sh prints them over the translation f654f197d26d7d7f… (all of the seat's roots in one cut). By AI agents, Wed Nov 11 2026. No macro, syntax, notation, axiom, sorry.
-/
import Derived.Test.Qxb6613951aChecked
import GoSem.Claim
import GoSem.ClaimJoined
import GoSem.ClaimMapViews
import Derived.JoinedTies
import Derived.KernelRfl
namespace Go.Proofs.Qxb6613951a
/- THE CELL 'sum', in the pinned program and in every row, IS THE sha256 OF THE DUMP (.gsa) THAT Qxb6613951aProg.lean LOADS. Nothing in Lean hashes anything: it is a label: what it is worth is what the hold of that sum in a sandbox is worth. -/
noncomputable def Try.pinned : Pinned := { name := "qxb6613951a", sum := "f654f197d26d7d7fa916dcba93d2574b7b1549a613465166af20bcec0ff08e58", checked := Try.checked }
namespace Rows
def none {H : Type} : Left H := { results := [], args := [] }

/-- 'zzlaws_pkg_yamlfile_b1.FnSubsetSkipStepsOverTheWholeRun': WHATEVER THE INPUT: true; the input reads as it did. -/
def fnSubsetSkipStepsOverTheWholeRunSpec : ChangeSpec := { name := "fnSubsetSkipStepsOverTheWholeRun", fn := fun _ => fun
  | [d1, d2, d3, d4] => { results := [.lit (.bool true)], args := [d1, d2, d3, d4] }
  | _ => none }
def fnSubsetSkipStepsOverTheWholeRunRow : OpenClaim := { program := "qxb6613951a", sum := "f654f197d26d7d7fa916dcba93d2574b7b1549a613465166af20bcec0ff08e58", func := "example.com/vestwright/vestwright/zzlaws_pkg_yamlfile_b1.FnSubsetSkipStepsOverTheWholeRun", spec := "fnSubsetSkipStepsOverTheWholeRun", apart := false }
def FnSubsetSkipStepsOverTheWholeRunSaid : Prop := fnSubsetSkipStepsOverTheWholeRunRow.holds Try.pinned (OpenSpec.ofChange fnSubsetSkipStepsOverTheWholeRunSpec)

/-- ITS FALSE NEIGHBOUR: 'it returns false'. Refute it at one input. -/
def fnSubsetSkipStepsOverTheWholeRunWrong : ChangeSpec := { name := "fnSubsetSkipStepsOverTheWholeRun", fn := fun _ => fun
  | [d1, d2, d3, d4] => { results := [.lit (.bool false)], args := [d1, d2, d3, d4] }
  | _ => none }
def FnSubsetSkipStepsOverTheWholeRunWrongFalsely : Prop := fnSubsetSkipStepsOverTheWholeRunRow.holds Try.pinned (OpenSpec.ofChange fnSubsetSkipStepsOverTheWholeRunWrong)

end Rows
end Go.Proofs.Qxb6613951a
