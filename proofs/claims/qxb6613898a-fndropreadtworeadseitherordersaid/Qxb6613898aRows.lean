/-
  No cell of these rows narrows 'for every input' (looked for: loops, veiled, ifaces, maps, wideKeys, modest, calm, conditions, laid).
  DERIVED. THE GIVEN ROWS OF THIS SEAT. 2 by the template 'for every input the law returns true; each argument reads behind the call as it read before'; 0 by the template 'total and deterministic' (their statements: Qxb6613898aTotals.lean).
  GIVEN WITH THE SEED: the statements are not yours to turn. If you find one false, say at which input.
  Laid BY PROGRAM, IN A SANDBOX (cutbox-rows.mjs): the forced cells as the released guide's own fill.sh prints them over the translation 0090a51f3047c7f5… (all of the seat's roots in one cut). By AI agents, Wed Nov 11 2026. No macro, syntax, notation, axiom, sorry.
-/
import Derived.Test.Qxb6613898aChecked
import GoSem.Claim
import GoSem.ClaimJoined
import GoSem.ClaimMapViews
import Derived.JoinedTies
import Derived.KernelRfl
namespace Go.Proofs.Qxb6613898a
/- THE CELL 'sum', in the pinned program and in every row, IS THE sha256 OF THE DUMP (.gsa) THAT Qxb6613898aProg.lean LOADS. Nothing in Lean hashes anything: it is a label: what it is worth is what the hold of that sum in a sandbox is worth. -/
noncomputable def Try.pinned : Pinned := { name := "qxb6613898a", sum := "0090a51f3047c7f5f2a7a562218915b60f5de5f80e48f660d1a9f18d2ebd0ad2", checked := Try.checked }
namespace Rows
def none {H : Type} : Left H := { results := [], args := [] }

/-- 'zzlaws_internal_paxos_b1.FnDropReadForgetsThatReadAlone': WHATEVER THE INPUT: true; the input reads as it did. -/
def fnDropReadForgetsThatReadAloneSpec : ChangeSpec := { name := "fnDropReadForgetsThatReadAlone", fn := fun _ => fun
  | [d1, d2, d3, d4, d5] => { results := [.lit (.bool true)], args := [d1, d2, d3, d4, d5] }
  | _ => none }
def fnDropReadForgetsThatReadAloneRow : OpenClaim := { program := "qxb6613898a", sum := "0090a51f3047c7f5f2a7a562218915b60f5de5f80e48f660d1a9f18d2ebd0ad2", func := "synodic.example/synodic/zzlaws_internal_paxos_b1.FnDropReadForgetsThatReadAlone", spec := "fnDropReadForgetsThatReadAlone", unfollowed := true, recurses := true, apart := false }
def FnDropReadForgetsThatReadAloneSaid : Prop := fnDropReadForgetsThatReadAloneRow.holds Try.pinned (OpenSpec.ofChange fnDropReadForgetsThatReadAloneSpec)

/-- ITS FALSE NEIGHBOUR: 'it returns false'. Refute it at one input. -/
def fnDropReadForgetsThatReadAloneWrong : ChangeSpec := { name := "fnDropReadForgetsThatReadAlone", fn := fun _ => fun
  | [d1, d2, d3, d4, d5] => { results := [.lit (.bool false)], args := [d1, d2, d3, d4, d5] }
  | _ => none }
def FnDropReadForgetsThatReadAloneWrongFalsely : Prop := fnDropReadForgetsThatReadAloneRow.holds Try.pinned (OpenSpec.ofChange fnDropReadForgetsThatReadAloneWrong)

/-- 'zzlaws_internal_paxos_b1.FnDropReadTwoReadsEitherOrder': WHATEVER THE INPUT: true; the input reads as it did. -/
def fnDropReadTwoReadsEitherOrderSpec : ChangeSpec := { name := "fnDropReadTwoReadsEitherOrder", fn := fun _ => fun
  | [d1, d2, d3, d4, d5, d6] => { results := [.lit (.bool true)], args := [d1, d2, d3, d4, d5, d6] }
  | _ => none }
def fnDropReadTwoReadsEitherOrderRow : OpenClaim := { program := "qxb6613898a", sum := "0090a51f3047c7f5f2a7a562218915b60f5de5f80e48f660d1a9f18d2ebd0ad2", func := "synodic.example/synodic/zzlaws_internal_paxos_b1.FnDropReadTwoReadsEitherOrder", spec := "fnDropReadTwoReadsEitherOrder", unfollowed := true, recurses := true, apart := false }
def FnDropReadTwoReadsEitherOrderSaid : Prop := fnDropReadTwoReadsEitherOrderRow.holds Try.pinned (OpenSpec.ofChange fnDropReadTwoReadsEitherOrderSpec)

/-- ITS FALSE NEIGHBOUR: 'it returns false'. Refute it at one input. -/
def fnDropReadTwoReadsEitherOrderWrong : ChangeSpec := { name := "fnDropReadTwoReadsEitherOrder", fn := fun _ => fun
  | [d1, d2, d3, d4, d5, d6] => { results := [.lit (.bool false)], args := [d1, d2, d3, d4, d5, d6] }
  | _ => none }
def FnDropReadTwoReadsEitherOrderWrongFalsely : Prop := fnDropReadTwoReadsEitherOrderRow.holds Try.pinned (OpenSpec.ofChange fnDropReadTwoReadsEitherOrderWrong)

end Rows
end Go.Proofs.Qxb6613898a
