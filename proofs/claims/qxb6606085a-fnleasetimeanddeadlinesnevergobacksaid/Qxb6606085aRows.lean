/-
  No cell of these rows narrows 'for every input' (looked for: loops, veiled, ifaces, maps, wideKeys, modest, calm, conditions, laid).
  DERIVED. THE GIVEN ROWS OF THIS SEAT. 3 by the template 'for every input the law returns true; each argument reads behind the call as it read before'; 0 by the template 'total and deterministic' (their statements: Qxb6606085aTotals.lean).
  GIVEN WITH THE SEED: the statements are not yours to turn. If you find one false, say at which input.
  Laid BY PROGRAM, IN A SANDBOX (cutbox-rows.mjs): the forced cells as the released guide's own fill.sh prints them over the translation d1a89e0d8d80abe4… (all of the seat's roots in one cut). By AI agents, Wed Nov 11 2026. No macro, syntax, notation, axiom, sorry.
-/
import Derived.Test.Qxb6606085aChecked
import GoSem.Claim
import GoSem.ClaimJoined
import GoSem.ClaimMapViews
import Derived.JoinedTies
import Derived.KernelRfl
namespace Go.Proofs.Qxb6606085a
/- THE CELL 'sum', in the pinned program and in every row, IS THE sha256 OF THE DUMP (.gsa) THAT Qxb6606085aProg.lean LOADS. Nothing in Lean hashes anything: it is a label: what it is worth is what the hold of that sum in a sandbox is worth. -/
noncomputable def Try.pinned : Pinned := { name := "qxb6606085a", sum := "d1a89e0d8d80abe428d6607b0e5bffec4ad02eecfe425481843b0deb512d4916", checked := Try.checked }
namespace Rows
def none {H : Type} : Left H := { results := [], args := [] }

/-- 'zzlaws_pkg_kv_b1.FnLeaseOneLeaderMovesByItsLargestSince': WHATEVER THE INPUT: true; the input reads as it did. -/
def fnLeaseOneLeaderMovesByItsLargestSinceSpec : ChangeSpec := { name := "fnLeaseOneLeaderMovesByItsLargestSince", fn := fun _ => fun
  | [d1, d2, d3, d4, d5, d6, d7, d8, d9, d10, d11] => { results := [.lit (.bool true)], args := [d1, d2, d3, d4, d5, d6, d7, d8, d9, d10, d11] }
  | _ => none }
def fnLeaseOneLeaderMovesByItsLargestSinceRow : OpenClaim := { program := "qxb6606085a", sum := "d1a89e0d8d80abe428d6607b0e5bffec4ad02eecfe425481843b0deb512d4916", func := "example.com/keelhold/keelhold/zzlaws_pkg_kv_b1.FnLeaseOneLeaderMovesByItsLargestSince", spec := "fnLeaseOneLeaderMovesByItsLargestSince", apart := false }
def FnLeaseOneLeaderMovesByItsLargestSinceSaid : Prop := fnLeaseOneLeaderMovesByItsLargestSinceRow.holds Try.pinned (OpenSpec.ofChange fnLeaseOneLeaderMovesByItsLargestSinceSpec)

/-- ITS FALSE NEIGHBOUR: 'it returns false'. Refute it at one input. -/
def fnLeaseOneLeaderMovesByItsLargestSinceWrong : ChangeSpec := { name := "fnLeaseOneLeaderMovesByItsLargestSince", fn := fun _ => fun
  | [d1, d2, d3, d4, d5, d6, d7, d8, d9, d10, d11] => { results := [.lit (.bool false)], args := [d1, d2, d3, d4, d5, d6, d7, d8, d9, d10, d11] }
  | _ => none }
def FnLeaseOneLeaderMovesByItsLargestSinceWrongFalsely : Prop := fnLeaseOneLeaderMovesByItsLargestSinceRow.holds Try.pinned (OpenSpec.ofChange fnLeaseOneLeaderMovesByItsLargestSinceWrong)

/-- 'zzlaws_pkg_kv_b1.FnLeaseAdvanceTwiceIsOnce': WHATEVER THE INPUT: true; the input reads as it did. -/
def fnLeaseAdvanceTwiceIsOnceSpec : ChangeSpec := { name := "fnLeaseAdvanceTwiceIsOnce", fn := fun _ => fun
  | [d1, d2, d3, d4, d5, d6, d7, d8, d9, d10, d11] => { results := [.lit (.bool true)], args := [d1, d2, d3, d4, d5, d6, d7, d8, d9, d10, d11] }
  | _ => none }
def fnLeaseAdvanceTwiceIsOnceRow : OpenClaim := { program := "qxb6606085a", sum := "d1a89e0d8d80abe428d6607b0e5bffec4ad02eecfe425481843b0deb512d4916", func := "example.com/keelhold/keelhold/zzlaws_pkg_kv_b1.FnLeaseAdvanceTwiceIsOnce", spec := "fnLeaseAdvanceTwiceIsOnce", apart := false }
def FnLeaseAdvanceTwiceIsOnceSaid : Prop := fnLeaseAdvanceTwiceIsOnceRow.holds Try.pinned (OpenSpec.ofChange fnLeaseAdvanceTwiceIsOnceSpec)

/-- ITS FALSE NEIGHBOUR: 'it returns false'. Refute it at one input. -/
def fnLeaseAdvanceTwiceIsOnceWrong : ChangeSpec := { name := "fnLeaseAdvanceTwiceIsOnce", fn := fun _ => fun
  | [d1, d2, d3, d4, d5, d6, d7, d8, d9, d10, d11] => { results := [.lit (.bool false)], args := [d1, d2, d3, d4, d5, d6, d7, d8, d9, d10, d11] }
  | _ => none }
def FnLeaseAdvanceTwiceIsOnceWrongFalsely : Prop := fnLeaseAdvanceTwiceIsOnceRow.holds Try.pinned (OpenSpec.ofChange fnLeaseAdvanceTwiceIsOnceWrong)

/-- 'zzlaws_pkg_kv_b1.FnLeaseTimeAndDeadlinesNeverGoBack': WHATEVER THE INPUT: true; the input reads as it did. -/
def fnLeaseTimeAndDeadlinesNeverGoBackSpec : ChangeSpec := { name := "fnLeaseTimeAndDeadlinesNeverGoBack", fn := fun _ => fun
  | [d1, d2, d3, d4, d5, d6, d7, d8, d9, d10, d11] => { results := [.lit (.bool true)], args := [d1, d2, d3, d4, d5, d6, d7, d8, d9, d10, d11] }
  | _ => none }
def fnLeaseTimeAndDeadlinesNeverGoBackRow : OpenClaim := { program := "qxb6606085a", sum := "d1a89e0d8d80abe428d6607b0e5bffec4ad02eecfe425481843b0deb512d4916", func := "example.com/keelhold/keelhold/zzlaws_pkg_kv_b1.FnLeaseTimeAndDeadlinesNeverGoBack", spec := "fnLeaseTimeAndDeadlinesNeverGoBack", apart := false }
def FnLeaseTimeAndDeadlinesNeverGoBackSaid : Prop := fnLeaseTimeAndDeadlinesNeverGoBackRow.holds Try.pinned (OpenSpec.ofChange fnLeaseTimeAndDeadlinesNeverGoBackSpec)

/-- ITS FALSE NEIGHBOUR: 'it returns false'. Refute it at one input. -/
def fnLeaseTimeAndDeadlinesNeverGoBackWrong : ChangeSpec := { name := "fnLeaseTimeAndDeadlinesNeverGoBack", fn := fun _ => fun
  | [d1, d2, d3, d4, d5, d6, d7, d8, d9, d10, d11] => { results := [.lit (.bool false)], args := [d1, d2, d3, d4, d5, d6, d7, d8, d9, d10, d11] }
  | _ => none }
def FnLeaseTimeAndDeadlinesNeverGoBackWrongFalsely : Prop := fnLeaseTimeAndDeadlinesNeverGoBackRow.holds Try.pinned (OpenSpec.ofChange fnLeaseTimeAndDeadlinesNeverGoBackWrong)

end Rows
end Go.Proofs.Qxb6606085a
