/-
  No cell of these rows narrows 'for every input' (looked for: loops, veiled, ifaces, maps, wideKeys, modest, calm, conditions, laid).
  DERIVED. THE GIVEN ROWS OF THIS SEAT. 2 by the template 'for every input the law returns true; each argument reads behind the call as it read before'; 0 by the template 'total and deterministic' (their statements: Qxb6613476aTotals.lean).
  GIVEN WITH THE SEED: the statements are not yours to turn. If you find one false, say at which input.
  Laid BY PROGRAM, IN A SANDBOX (cutbox-rows.mjs): the forced cells as the released guide's own fill.sh prints them over the translation ad4661437c16f3db… (all of the seat's roots in one cut). By AI agents, Wed Nov 11 2026. No macro, syntax, notation, axiom, sorry.
-/
import Derived.Test.Qxb6613476aChecked
import GoSem.Claim
import GoSem.ClaimJoined
import GoSem.ClaimMapViews
import Derived.JoinedTies
import Derived.KernelRfl
namespace Go.Proofs.Qxb6613476a
/- THE CELL 'sum', in the pinned program and in every row, IS THE sha256 OF THE DUMP (.gsa) THAT Qxb6613476aProg.lean LOADS. Nothing in Lean hashes anything: it is a label: what it is worth is what the hold of that sum in a sandbox is worth. -/
noncomputable def Try.pinned : Pinned := { name := "qxb6613476a", sum := "ad4661437c16f3db2a2e8523476207a95b21f76cec0c75920b420dee6f8ab20a", checked := Try.checked }
namespace Rows
def none {H : Type} : Left H := { results := [], args := [] }

/-- 'zzlaws_pkg_store_b1.FnKeepsDecidesWhetherSetKeepsTheEntry': WHATEVER THE INPUT: true; the input reads as it did. -/
def fnKeepsDecidesWhetherSetKeepsTheEntrySpec : ChangeSpec := { name := "fnKeepsDecidesWhetherSetKeepsTheEntry", fn := fun _ => fun
  | [d1, d2, d3, d4, d5, d6, d7, d8, d9] => { results := [.lit (.bool true)], args := [d1, d2, d3, d4, d5, d6, d7, d8, d9] }
  | _ => none }
def fnKeepsDecidesWhetherSetKeepsTheEntryRow : OpenClaim := { program := "qxb6613476a", sum := "ad4661437c16f3db2a2e8523476207a95b21f76cec0c75920b420dee6f8ab20a", func := "example.com/credd/credd/zzlaws_pkg_store_b1.FnKeepsDecidesWhetherSetKeepsTheEntry", spec := "fnKeepsDecidesWhetherSetKeepsTheEntry", plainKeys := false, apart := false }
def FnKeepsDecidesWhetherSetKeepsTheEntrySaid : Prop := fnKeepsDecidesWhetherSetKeepsTheEntryRow.holds Try.pinned (OpenSpec.ofChange fnKeepsDecidesWhetherSetKeepsTheEntrySpec)

/-- ITS FALSE NEIGHBOUR: 'it returns false'. Refute it at one input. -/
def fnKeepsDecidesWhetherSetKeepsTheEntryWrong : ChangeSpec := { name := "fnKeepsDecidesWhetherSetKeepsTheEntry", fn := fun _ => fun
  | [d1, d2, d3, d4, d5, d6, d7, d8, d9] => { results := [.lit (.bool false)], args := [d1, d2, d3, d4, d5, d6, d7, d8, d9] }
  | _ => none }
def FnKeepsDecidesWhetherSetKeepsTheEntryWrongFalsely : Prop := fnKeepsDecidesWhetherSetKeepsTheEntryRow.holds Try.pinned (OpenSpec.ofChange fnKeepsDecidesWhetherSetKeepsTheEntryWrong)

/-- 'zzlaws_pkg_store_b1.FnPairEntryLivesWhileEitherHalfKeeps': WHATEVER THE INPUT: true; the input reads as it did. -/
def fnPairEntryLivesWhileEitherHalfKeepsSpec : ChangeSpec := { name := "fnPairEntryLivesWhileEitherHalfKeeps", fn := fun _ => fun
  | [d1, d2, d3, d4, d5, d6, d7, d8, d9, d10, d11, d12] => { results := [.lit (.bool true)], args := [d1, d2, d3, d4, d5, d6, d7, d8, d9, d10, d11, d12] }
  | _ => none }
def fnPairEntryLivesWhileEitherHalfKeepsRow : OpenClaim := { program := "qxb6613476a", sum := "ad4661437c16f3db2a2e8523476207a95b21f76cec0c75920b420dee6f8ab20a", func := "example.com/credd/credd/zzlaws_pkg_store_b1.FnPairEntryLivesWhileEitherHalfKeeps", spec := "fnPairEntryLivesWhileEitherHalfKeeps", plainKeys := false, apart := false }
def FnPairEntryLivesWhileEitherHalfKeepsSaid : Prop := fnPairEntryLivesWhileEitherHalfKeepsRow.holds Try.pinned (OpenSpec.ofChange fnPairEntryLivesWhileEitherHalfKeepsSpec)

/-- ITS FALSE NEIGHBOUR: 'it returns false'. Refute it at one input. -/
def fnPairEntryLivesWhileEitherHalfKeepsWrong : ChangeSpec := { name := "fnPairEntryLivesWhileEitherHalfKeeps", fn := fun _ => fun
  | [d1, d2, d3, d4, d5, d6, d7, d8, d9, d10, d11, d12] => { results := [.lit (.bool false)], args := [d1, d2, d3, d4, d5, d6, d7, d8, d9, d10, d11, d12] }
  | _ => none }
def FnPairEntryLivesWhileEitherHalfKeepsWrongFalsely : Prop := fnPairEntryLivesWhileEitherHalfKeepsRow.holds Try.pinned (OpenSpec.ofChange fnPairEntryLivesWhileEitherHalfKeepsWrong)

end Rows
end Go.Proofs.Qxb6613476a
