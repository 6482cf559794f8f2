/-
  No cell of these rows narrows 'for every input' (looked for: loops, veiled, ifaces, maps, wideKeys, modest, calm, conditions, laid).
  DERIVED. THE GIVEN ROWS OF THIS SEAT. 2 by the template 'for every input the law returns true; each argument reads behind the call as it read before'; 0 by the template 'total and deterministic' (their statements: Qxb6613539aTotals.lean).
  GIVEN WITH THE SEED: the statements are not yours to turn. If you find one false, say at which input.
  Laid BY PROGRAM, IN A SANDBOX (cutbox-rows.mjs): the forced cells as the released guide's own fill.sh prints them over the translation cbf3bd9168eb2245… (all of the seat's roots in one cut). By AI agents, Wed Nov 11 2026. No macro, syntax, notation, axiom, sorry.
-/
import Derived.Test.Qxb6613539aChecked
import GoSem.Claim
import GoSem.ClaimJoined
import GoSem.ClaimMapViews
import Derived.JoinedTies
import Derived.KernelRfl
namespace Go.Proofs.Qxb6613539a
/- THE CELL 'sum', in the pinned program and in every row, IS THE sha256 OF THE DUMP (.gsa) THAT Qxb6613539aProg.lean LOADS. Nothing in Lean hashes anything: it is a label: what it is worth is what the hold of that sum in a sandbox is worth. -/
noncomputable def Try.pinned : Pinned := { name := "qxb6613539a", sum := "cbf3bd9168eb2245f75c6296a5f6f8043d3b3a03f043fefe65770077bd647ded", checked := Try.checked }
namespace Rows
def none {H : Type} : Left H := { results := [], args := [] }

/-- 'zzlaws_root_b1.FnSpentProposalOrdersHeightAgainstCommitted': WHATEVER THE INPUT: true; the input reads as it did. -/
def fnSpentProposalOrdersHeightAgainstCommittedSpec : ChangeSpec := { name := "fnSpentProposalOrdersHeightAgainstCommitted", fn := fun _ => fun
  | [d1, d2] => { results := [.lit (.bool true)], args := [d1, d2] }
  | _ => none }
def fnSpentProposalOrdersHeightAgainstCommittedRow : OpenClaim := { program := "qxb6613539a", sum := "cbf3bd9168eb2245f75c6296a5f6f8043d3b3a03f043fefe65770077bd647ded", func := "example.com/rondel/rondel/zzlaws_root_b1.FnSpentProposalOrdersHeightAgainstCommitted", spec := "fnSpentProposalOrdersHeightAgainstCommitted", plainKeys := false, apart := false }
def FnSpentProposalOrdersHeightAgainstCommittedSaid : Prop := fnSpentProposalOrdersHeightAgainstCommittedRow.holds Try.pinned (OpenSpec.ofChange fnSpentProposalOrdersHeightAgainstCommittedSpec)

/-- ITS FALSE NEIGHBOUR: 'it returns false'. Refute it at one input. -/
def fnSpentProposalOrdersHeightAgainstCommittedWrong : ChangeSpec := { name := "fnSpentProposalOrdersHeightAgainstCommitted", fn := fun _ => fun
  | [d1, d2] => { results := [.lit (.bool false)], args := [d1, d2] }
  | _ => none }
def FnSpentProposalOrdersHeightAgainstCommittedWrongFalsely : Prop := fnSpentProposalOrdersHeightAgainstCommittedRow.holds Try.pinned (OpenSpec.ofChange fnSpentProposalOrdersHeightAgainstCommittedWrong)

/-- 'zzlaws_root_b1.FnSpentProposalFromItsOwnHeightTimeoutsNever': WHATEVER THE INPUT: true; the input reads as it did. -/
def fnSpentProposalFromItsOwnHeightTimeoutsNeverSpec : ChangeSpec := { name := "fnSpentProposalFromItsOwnHeightTimeoutsNever", fn := fun _ => fun
  | [d1, d2, d3] => { results := [.lit (.bool true)], args := [d1, d2, d3] }
  | _ => none }
def fnSpentProposalFromItsOwnHeightTimeoutsNeverRow : OpenClaim := { program := "qxb6613539a", sum := "cbf3bd9168eb2245f75c6296a5f6f8043d3b3a03f043fefe65770077bd647ded", func := "example.com/rondel/rondel/zzlaws_root_b1.FnSpentProposalFromItsOwnHeightTimeoutsNever", spec := "fnSpentProposalFromItsOwnHeightTimeoutsNever", plainKeys := false, apart := false }
def FnSpentProposalFromItsOwnHeightTimeoutsNeverSaid : Prop := fnSpentProposalFromItsOwnHeightTimeoutsNeverRow.holds Try.pinned (OpenSpec.ofChange fnSpentProposalFromItsOwnHeightTimeoutsNeverSpec)

/-- ITS FALSE NEIGHBOUR: 'it returns false'. Refute it at one input. -/
def fnSpentProposalFromItsOwnHeightTimeoutsNeverWrong : ChangeSpec := { name := "fnSpentProposalFromItsOwnHeightTimeoutsNever", fn := fun _ => fun
  | [d1, d2, d3] => { results := [.lit (.bool false)], args := [d1, d2, d3] }
  | _ => none }
def FnSpentProposalFromItsOwnHeightTimeoutsNeverWrongFalsely : Prop := fnSpentProposalFromItsOwnHeightTimeoutsNeverRow.holds Try.pinned (OpenSpec.ofChange fnSpentProposalFromItsOwnHeightTimeoutsNeverWrong)

end Rows
end Go.Proofs.Qxb6613539a
