/-
  No cell of these rows narrows 'for every input' (looked for: loops, veiled, ifaces, maps, wideKeys, modest, calm, conditions, laid).
  DERIVED. THE GIVEN ROWS OF THIS SEAT. 1 by the template 'for every input the law returns true; each argument reads behind the call as it read before'; 0 by the template 'total and deterministic' (their statements: Qxb6609468aTotals.lean).
  GIVEN WITH THE SEED: the statements are not yours to turn. If you find one false, say at which input.
  Laid BY PROGRAM, IN A SANDBOX (cutbox-rows.mjs): the forced cells as the released guide's own fill.sh prints them over the translation 8f8c84bd122872b8… (all of the seat's roots in one cut). By AI agents, Wed Nov 11 2026. No macro, syntax, notation, axiom, sorry.
-/
import Derived.Test.Qxb6609468aChecked
import GoSem.Claim
import GoSem.ClaimJoined
import GoSem.ClaimMapViews
import Derived.JoinedTies
import Derived.KernelRfl
namespace Go.Proofs.Qxb6609468a
/- THE CELL 'sum', in the pinned program and in every row, IS THE sha256 OF THE DUMP (.gsa) THAT Qxb6609468aProg.lean LOADS. Nothing in Lean hashes anything: it is a label: what it is worth is what the hold of that sum in a sandbox is worth. -/
noncomputable def Try.pinned : Pinned := { name := "qxb6609468a", sum := "8f8c84bd122872b89484b408d0a5cc8a27c79573815bffa5ec7c303c53641c39", checked := Try.checked }
namespace Rows
def none {H : Type} : Left H := { results := [], args := [] }

/-- 'zzlaws_internal_wire_b1.FnCountMessageScript': WHATEVER THE INPUT: true; the input reads as it did. -/
def fnCountMessageScriptSpec : ChangeSpec := { name := "fnCountMessageScript", fn := fun _ => fun
  | [d1, d2] => { results := [.lit (.bool true)], args := [d1, d2] }
  | _ => none }
def fnCountMessageScriptRow : OpenClaim := { program := "qxb6609468a", sum := "8f8c84bd122872b89484b408d0a5cc8a27c79573815bffa5ec7c303c53641c39", func := "example.com/shiftring/shiftring/zzlaws_internal_wire_b1.FnCountMessageScript", spec := "fnCountMessageScript", inPlace := ["sync/atomic.AddUint64", "sync/atomic.LoadUint64"], apart := false }
def FnCountMessageScriptSaid : Prop := fnCountMessageScriptRow.holds Try.pinned (OpenSpec.ofChange fnCountMessageScriptSpec)

/-- ITS FALSE NEIGHBOUR: 'it returns false'. Refute it at one input. -/
def fnCountMessageScriptWrong : ChangeSpec := { name := "fnCountMessageScript", fn := fun _ => fun
  | [d1, d2] => { results := [.lit (.bool false)], args := [d1, d2] }
  | _ => none }
def FnCountMessageScriptWrongFalsely : Prop := fnCountMessageScriptRow.holds Try.pinned (OpenSpec.ofChange fnCountMessageScriptWrong)

end Rows
end Go.Proofs.Qxb6609468a
