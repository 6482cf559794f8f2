/-
  No cell of these rows narrows 'for every input' (looked for: loops, veiled, ifaces, maps, wideKeys, modest, calm, conditions, laid).
  DERIVED. THE GIVEN ROWS OF THIS SEAT. 1 by the template 'for every input the law returns true; each argument reads behind the call as it read before'; 0 by the template 'total and deterministic' (their statements: Qxb6613494aTotals.lean).
  GIVEN WITH THE SEED: the statements are not yours to turn. If you find one false, say at which input.
  Laid BY PROGRAM, IN A SANDBOX (cutbox-rows.mjs): the forced cells as the released guide's own fill.sh prints them over the translation 9b0950a420f62352… (all of the seat's roots in one cut). By AI agents, Wed Nov 11 2026. No macro, syntax, notation, axiom, sorry.
-/
import Derived.Test.Qxb6613494aChecked
import GoSem.Claim
import GoSem.ClaimJoined
import GoSem.ClaimMapViews
import Derived.JoinedTies
import Derived.KernelRfl
namespace Go.Proofs.Qxb6613494a
/- THE CELL 'sum', in the pinned program and in every row, IS THE sha256 OF THE DUMP (.gsa) THAT Qxb6613494aProg.lean LOADS. Nothing in Lean hashes anything: it is a label: what it is worth is what the hold of that sum in a sandbox is worth. -/
noncomputable def Try.pinned : Pinned := { name := "qxb6613494a", sum := "9b0950a420f62352bfe5e7643e2ca54fbacc68b9becca6765d6bc118e5d7f11a", checked := Try.checked }
namespace Rows
def none {H : Type} : Left H := { results := [], args := [] }

/-- 'zzlaws_pkg_dnssec_b1.FnNsecQueueHoldsEachEntryOnceInOrder': WHATEVER THE INPUT: true; the input reads as it did. -/
def fnNsecQueueHoldsEachEntryOnceInOrderSpec : ChangeSpec := { name := "fnNsecQueueHoldsEachEntryOnceInOrder", fn := fun _ => fun
  | [d] => { results := [.lit (.bool true)], args := [d] }
  | _ => none }
def fnNsecQueueHoldsEachEntryOnceInOrderRow : OpenClaim := { program := "qxb6613494a", sum := "9b0950a420f62352bfe5e7643e2ca54fbacc68b9becca6765d6bc118e5d7f11a", func := "example.com/zonewright/zonewright/zzlaws_pkg_dnssec_b1.FnNsecQueueHoldsEachEntryOnceInOrder", spec := "fnNsecQueueHoldsEachEntryOnceInOrder", unfollowed := true, recurses := true, apart := false }
def FnNsecQueueHoldsEachEntryOnceInOrderSaid : Prop := fnNsecQueueHoldsEachEntryOnceInOrderRow.holds Try.pinned (OpenSpec.ofChange fnNsecQueueHoldsEachEntryOnceInOrderSpec)

/-- ITS FALSE NEIGHBOUR: 'it returns false'. Refute it at one input. -/
def fnNsecQueueHoldsEachEntryOnceInOrderWrong : ChangeSpec := { name := "fnNsecQueueHoldsEachEntryOnceInOrder", fn := fun _ => fun
  | [d] => { results := [.lit (.bool false)], args := [d] }
  | _ => none }
def FnNsecQueueHoldsEachEntryOnceInOrderWrongFalsely : Prop := fnNsecQueueHoldsEachEntryOnceInOrderRow.holds Try.pinned (OpenSpec.ofChange fnNsecQueueHoldsEachEntryOnceInOrderWrong)

end Rows
end Go.Proofs.Qxb6613494a
