/-
  No cell of these rows narrows 'for every input' (looked for: loops, veiled, ifaces, maps, wideKeys, modest, calm, conditions, laid).
  DERIVED. THE GIVEN ROWS OF THIS SEAT. 1 by the template 'for every input the law returns true; each argument reads behind the call as it read before'; 0 by the template 'total and deterministic' (their statements: Qxb6609323aTotals.lean).
  GIVEN WITH THE SEED: the statements are not yours to turn. If you find one false, say at which input.
  Laid BY PROGRAM, IN A SANDBOX (cutbox-rows.mjs): the forced cells as the released guide's own fill.sh prints them over the translation 3e345cfe61d7be52… (all of the seat's roots in one cut). By AI agents, Wed Nov 11 2026. No macro, syntax, notation, axiom, sorry.
-/
import Derived.Test.Qxb6609323aChecked
import GoSem.Claim
import GoSem.ClaimJoined
import GoSem.ClaimMapViews
import Derived.JoinedTies
import Derived.KernelRfl
namespace Go.Proofs.Qxb6609323a
/- THE CELL 'sum', in the pinned program and in every row, IS THE sha256 OF THE DUMP (.gsa) THAT Qxb6609323aProg.lean LOADS. Nothing in Lean hashes anything: it is a label: what it is worth is what the hold of that sum in a sandbox is worth. -/
noncomputable def Try.pinned : Pinned := { name := "qxb6609323a", sum := "3e345cfe61d7be52a1b1d49e78af3dc0e59577230375259601a61548258d17f9", checked := Try.checked }
namespace Rows
def none {H : Type} : Left H := { results := [], args := [] }

/-- 'zzlaws_root_b1.FnTakeDrainsEveryFrameOnceInOrder': WHATEVER THE INPUT: true; the input reads as it did. -/
def fnTakeDrainsEveryFrameOnceInOrderSpec : ChangeSpec := { name := "fnTakeDrainsEveryFrameOnceInOrder", fn := fun _ => fun
  | [d1, d2] => { results := [.lit (.bool true)], args := [d1, d2] }
  | _ => none }
def fnTakeDrainsEveryFrameOnceInOrderRow : OpenClaim := { program := "qxb6609323a", sum := "3e345cfe61d7be52a1b1d49e78af3dc0e59577230375259601a61548258d17f9", func := "example.com/quorumline/quorumline/zzlaws_root_b1.FnTakeDrainsEveryFrameOnceInOrder", spec := "fnTakeDrainsEveryFrameOnceInOrder", plainKeys := false, apart := false }
def FnTakeDrainsEveryFrameOnceInOrderSaid : Prop := fnTakeDrainsEveryFrameOnceInOrderRow.holds Try.pinned (OpenSpec.ofChange fnTakeDrainsEveryFrameOnceInOrderSpec)

/-- ITS FALSE NEIGHBOUR: 'it returns false'. Refute it at one input. -/
def fnTakeDrainsEveryFrameOnceInOrderWrong : ChangeSpec := { name := "fnTakeDrainsEveryFrameOnceInOrder", fn := fun _ => fun
  | [d1, d2] => { results := [.lit (.bool false)], args := [d1, d2] }
  | _ => none }
def FnTakeDrainsEveryFrameOnceInOrderWrongFalsely : Prop := fnTakeDrainsEveryFrameOnceInOrderRow.holds Try.pinned (OpenSpec.ofChange fnTakeDrainsEveryFrameOnceInOrderWrong)

end Rows
end Go.Proofs.Qxb6609323a
