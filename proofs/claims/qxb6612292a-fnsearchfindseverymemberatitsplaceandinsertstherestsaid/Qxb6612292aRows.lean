/-
  No cell of these rows narrows 'for every input' (looked for: loops, veiled, ifaces, maps, wideKeys, modest, calm, conditions, laid).
  DERIVED. THE GIVEN ROWS OF THIS SEAT. 3 by the template 'for every input the law returns true; each argument reads behind the call as it read before'; 0 by the template 'total and deterministic' (their statements: Qxb6612292aTotals.lean).
  GIVEN WITH THE SEED: the statements are not yours to turn. If you find one false, say at which input.
  Laid BY PROGRAM, IN A SANDBOX (cutbox-rows.mjs): the forced cells as the released guide's own fill.sh prints them over the translation 8e3798bd121a9b6b… (all of the seat's roots in one cut). By AI agents, Wed Nov 11 2026. No macro, syntax, notation, axiom, sorry.
-/
import Derived.Test.Qxb6612292aChecked
import GoSem.Claim
import GoSem.ClaimJoined
import GoSem.ClaimMapViews
import Derived.JoinedTies
import Derived.KernelRfl
namespace Go.Proofs.Qxb6612292a
/- THE CELL 'sum', in the pinned program and in every row, IS THE sha256 OF THE DUMP (.gsa) THAT Qxb6612292aProg.lean LOADS. Nothing in Lean hashes anything: it is a label: what it is worth is what the hold of that sum in a sandbox is worth. -/
noncomputable def Try.pinned : Pinned := { name := "qxb6612292a", sum := "8e3798bd121a9b6bffa0dae029297db7a955bbb7244a3ad64a118c2f7c0398d6", checked := Try.checked }
namespace Rows
def none {H : Type} : Left H := { results := [], args := [] }

/-- 'zzlaws_causal_b1.FnSearchGivesTheRankAndMembership': WHATEVER THE INPUT: true; the input reads as it did. -/
def fnSearchGivesTheRankAndMembershipSpec : ChangeSpec := { name := "fnSearchGivesTheRankAndMembership", fn := fun _ => fun
  | [d1, d2, d3] => { results := [.lit (.bool true)], args := [d1, d2, d3] }
  | _ => none }
def fnSearchGivesTheRankAndMembershipRow : OpenClaim := { program := "qxb6612292a", sum := "8e3798bd121a9b6bffa0dae029297db7a955bbb7244a3ad64a118c2f7c0398d6", func := "example.com/semilattice/semilattice/zzlaws_causal_b1.FnSearchGivesTheRankAndMembership", spec := "fnSearchGivesTheRankAndMembership", unfollowed := true, recurses := true, apart := false }
def FnSearchGivesTheRankAndMembershipSaid : Prop := fnSearchGivesTheRankAndMembershipRow.holds Try.pinned (OpenSpec.ofChange fnSearchGivesTheRankAndMembershipSpec)

/-- ITS FALSE NEIGHBOUR: 'it returns false'. Refute it at one input. -/
def fnSearchGivesTheRankAndMembershipWrong : ChangeSpec := { name := "fnSearchGivesTheRankAndMembership", fn := fun _ => fun
  | [d1, d2, d3] => { results := [.lit (.bool false)], args := [d1, d2, d3] }
  | _ => none }
def FnSearchGivesTheRankAndMembershipWrongFalsely : Prop := fnSearchGivesTheRankAndMembershipRow.holds Try.pinned (OpenSpec.ofChange fnSearchGivesTheRankAndMembershipWrong)

/-- 'zzlaws_causal_b1.FnSearchFindsEveryMemberAtItsPlaceAndInsertsTheRest': WHATEVER THE INPUT: true; the input reads as it did. -/
def fnSearchFindsEveryMemberAtItsPlaceAndInsertsTheRestSpec : ChangeSpec := { name := "fnSearchFindsEveryMemberAtItsPlaceAndInsertsTheRest", fn := fun _ => fun
  | [d1, d2, d3] => { results := [.lit (.bool true)], args := [d1, d2, d3] }
  | _ => none }
def fnSearchFindsEveryMemberAtItsPlaceAndInsertsTheRestRow : OpenClaim := { program := "qxb6612292a", sum := "8e3798bd121a9b6bffa0dae029297db7a955bbb7244a3ad64a118c2f7c0398d6", func := "example.com/semilattice/semilattice/zzlaws_causal_b1.FnSearchFindsEveryMemberAtItsPlaceAndInsertsTheRest", spec := "fnSearchFindsEveryMemberAtItsPlaceAndInsertsTheRest", unfollowed := true, recurses := true, apart := false }
def FnSearchFindsEveryMemberAtItsPlaceAndInsertsTheRestSaid : Prop := fnSearchFindsEveryMemberAtItsPlaceAndInsertsTheRestRow.holds Try.pinned (OpenSpec.ofChange fnSearchFindsEveryMemberAtItsPlaceAndInsertsTheRestSpec)

/-- ITS FALSE NEIGHBOUR: 'it returns false'. Refute it at one input. -/
def fnSearchFindsEveryMemberAtItsPlaceAndInsertsTheRestWrong : ChangeSpec := { name := "fnSearchFindsEveryMemberAtItsPlaceAndInsertsTheRest", fn := fun _ => fun
  | [d1, d2, d3] => { results := [.lit (.bool false)], args := [d1, d2, d3] }
  | _ => none }
def FnSearchFindsEveryMemberAtItsPlaceAndInsertsTheRestWrongFalsely : Prop := fnSearchFindsEveryMemberAtItsPlaceAndInsertsTheRestRow.holds Try.pinned (OpenSpec.ofChange fnSearchFindsEveryMemberAtItsPlaceAndInsertsTheRestWrong)

/-- 'zzlaws_causal_b1.FnIsBottomExactlyWhenNoDotIsFound': WHATEVER THE INPUT: true; the input reads as it did. -/
def fnIsBottomExactlyWhenNoDotIsFoundSpec : ChangeSpec := { name := "fnIsBottomExactlyWhenNoDotIsFound", fn := fun _ => fun
  | [d1, d2, d3] => { results := [.lit (.bool true)], args := [d1, d2, d3] }
  | _ => none }
def fnIsBottomExactlyWhenNoDotIsFoundRow : OpenClaim := { program := "qxb6612292a", sum := "8e3798bd121a9b6bffa0dae029297db7a955bbb7244a3ad64a118c2f7c0398d6", func := "example.com/semilattice/semilattice/zzlaws_causal_b1.FnIsBottomExactlyWhenNoDotIsFound", spec := "fnIsBottomExactlyWhenNoDotIsFound", unfollowed := true, recurses := true, apart := false }
def FnIsBottomExactlyWhenNoDotIsFoundSaid : Prop := fnIsBottomExactlyWhenNoDotIsFoundRow.holds Try.pinned (OpenSpec.ofChange fnIsBottomExactlyWhenNoDotIsFoundSpec)

/-- ITS FALSE NEIGHBOUR: 'it returns false'. Refute it at one input. -/
def fnIsBottomExactlyWhenNoDotIsFoundWrong : ChangeSpec := { name := "fnIsBottomExactlyWhenNoDotIsFound", fn := fun _ => fun
  | [d1, d2, d3] => { results := [.lit (.bool false)], args := [d1, d2, d3] }
  | _ => none }
def FnIsBottomExactlyWhenNoDotIsFoundWrongFalsely : Prop := fnIsBottomExactlyWhenNoDotIsFoundRow.holds Try.pinned (OpenSpec.ofChange fnIsBottomExactlyWhenNoDotIsFoundWrong)

end Rows
end Go.Proofs.Qxb6612292a
