/-
  No cell of these rows narrows 'for every input' (looked for: loops, veiled, ifaces, maps, wideKeys, modest, calm, conditions, laid).
  DERIVED. THE GIVEN ROWS OF THIS SEAT. 3 by the template 'for every input the law returns true; each argument reads behind the call as it read before'; 0 by the template 'total and deterministic' (their statements: Qxb6613434aTotals.lean).
  GIVEN WITH THE SEED: the statements are not yours to turn. If you find one false, say at which input.
  Laid BY PROGRAM, IN A SANDBOX (cutbox-rows.mjs): the forced cells as the released guide's own fill.sh prints them over the translation 9e6a340fc29c638d… (all of the seat's roots in one cut). By AI agents, Wed Nov 11 2026. No macro, syntax, notation, axiom, sorry.
-/
import Derived.Test.Qxb6613434aChecked
import GoSem.Claim
import GoSem.ClaimJoined
import GoSem.ClaimMapViews
import Derived.JoinedTies
import Derived.KernelRfl
namespace Go.Proofs.Qxb6613434a
/- THE CELL 'sum', in the pinned program and in every row, IS THE sha256 OF THE DUMP (.gsa) THAT Qxb6613434aProg.lean LOADS. Nothing in Lean hashes anything: it is a label: what it is worth is what the hold of that sum in a sandbox is worth. -/
noncomputable def Try.pinned : Pinned := { name := "qxb6613434a", sum := "9e6a340fc29c638d56607204b7f7923a1471448cef4221125c7ebc889d1612d1", checked := Try.checked }
namespace Rows
def none {H : Type} : Left H := { results := [], args := [] }

/-- 'zzlaws_root_b1.FnSeasonLongitudeQuarterTurnsApart': WHATEVER THE INPUT: true; the input reads as it did. -/
def fnSeasonLongitudeQuarterTurnsApartSpec : ChangeSpec := { name := "fnSeasonLongitudeQuarterTurnsApart", fn := fun _ => fun
  | [d1, d2] => { results := [.lit (.bool true)], args := [d1, d2] }
  | _ => none }
def fnSeasonLongitudeQuarterTurnsApartRow : OpenClaim := { program := "qxb6613434a", sum := "9e6a340fc29c638d56607204b7f7923a1471448cef4221125c7ebc889d1612d1", func := "example.com/skyreckon/skyreckon/zzlaws_root_b1.FnSeasonLongitudeQuarterTurnsApart", spec := "fnSeasonLongitudeQuarterTurnsApart", apart := false }
def FnSeasonLongitudeQuarterTurnsApartSaid : Prop := fnSeasonLongitudeQuarterTurnsApartRow.holds Try.pinned (OpenSpec.ofChange fnSeasonLongitudeQuarterTurnsApartSpec)

/-- ITS FALSE NEIGHBOUR: 'it returns false'. Refute it at one input. -/
def fnSeasonLongitudeQuarterTurnsApartWrong : ChangeSpec := { name := "fnSeasonLongitudeQuarterTurnsApart", fn := fun _ => fun
  | [d1, d2] => { results := [.lit (.bool false)], args := [d1, d2] }
  | _ => none }
def FnSeasonLongitudeQuarterTurnsApartWrongFalsely : Prop := fnSeasonLongitudeQuarterTurnsApartRow.holds Try.pinned (OpenSpec.ofChange fnSeasonLongitudeQuarterTurnsApartWrong)

/-- 'zzlaws_root_b1.FnHalveFindsTheTurnAndKeepsOrder': WHATEVER THE INPUT: true; the input reads as it did. -/
def fnHalveFindsTheTurnAndKeepsOrderSpec : ChangeSpec := { name := "fnHalveFindsTheTurnAndKeepsOrder", fn := fun _ => fun
  | [d1, d2, d3, d4] => { results := [.lit (.bool true)], args := [d1, d2, d3, d4] }
  | _ => none }
def fnHalveFindsTheTurnAndKeepsOrderRow : OpenClaim := { program := "qxb6613434a", sum := "9e6a340fc29c638d56607204b7f7923a1471448cef4221125c7ebc889d1612d1", func := "example.com/skyreckon/skyreckon/zzlaws_root_b1.FnHalveFindsTheTurnAndKeepsOrder", spec := "fnHalveFindsTheTurnAndKeepsOrder", unfollowed := true, recurses := true, apart := false }
def FnHalveFindsTheTurnAndKeepsOrderSaid : Prop := fnHalveFindsTheTurnAndKeepsOrderRow.holds Try.pinned (OpenSpec.ofChange fnHalveFindsTheTurnAndKeepsOrderSpec)

/-- ITS FALSE NEIGHBOUR: 'it returns false'. Refute it at one input. -/
def fnHalveFindsTheTurnAndKeepsOrderWrong : ChangeSpec := { name := "fnHalveFindsTheTurnAndKeepsOrder", fn := fun _ => fun
  | [d1, d2, d3, d4] => { results := [.lit (.bool false)], args := [d1, d2, d3, d4] }
  | _ => none }
def FnHalveFindsTheTurnAndKeepsOrderWrongFalsely : Prop := fnHalveFindsTheTurnAndKeepsOrderRow.holds Try.pinned (OpenSpec.ofChange fnHalveFindsTheTurnAndKeepsOrderWrong)

/-- 'zzlaws_root_b1.FnHalveMovesWithTheDay': WHATEVER THE INPUT: true; the input reads as it did. -/
def fnHalveMovesWithTheDaySpec : ChangeSpec := { name := "fnHalveMovesWithTheDay", fn := fun _ => fun
  | [d1, d2, d3, d4] => { results := [.lit (.bool true)], args := [d1, d2, d3, d4] }
  | _ => none }
def fnHalveMovesWithTheDayRow : OpenClaim := { program := "qxb6613434a", sum := "9e6a340fc29c638d56607204b7f7923a1471448cef4221125c7ebc889d1612d1", func := "example.com/skyreckon/skyreckon/zzlaws_root_b1.FnHalveMovesWithTheDay", spec := "fnHalveMovesWithTheDay", unfollowed := true, recurses := true, apart := false }
def FnHalveMovesWithTheDaySaid : Prop := fnHalveMovesWithTheDayRow.holds Try.pinned (OpenSpec.ofChange fnHalveMovesWithTheDaySpec)

/-- ITS FALSE NEIGHBOUR: 'it returns false'. Refute it at one input. -/
def fnHalveMovesWithTheDayWrong : ChangeSpec := { name := "fnHalveMovesWithTheDay", fn := fun _ => fun
  | [d1, d2, d3, d4] => { results := [.lit (.bool false)], args := [d1, d2, d3, d4] }
  | _ => none }
def FnHalveMovesWithTheDayWrongFalsely : Prop := fnHalveMovesWithTheDayRow.holds Try.pinned (OpenSpec.ofChange fnHalveMovesWithTheDayWrong)

end Rows
end Go.Proofs.Qxb6613434a
