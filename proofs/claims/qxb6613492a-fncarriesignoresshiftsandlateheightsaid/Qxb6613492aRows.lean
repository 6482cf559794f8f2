/-
  No cell of these rows narrows 'for every input' (looked for: loops, veiled, ifaces, maps, wideKeys, modest, calm, conditions, laid).
  DERIVED. THE GIVEN ROWS OF THIS SEAT. 2 by the template 'for every input the law returns true; each argument reads behind the call as it read before'; 0 by the template 'total and deterministic' (their statements: Qxb6613492aTotals.lean).
  GIVEN WITH THE SEED: the statements are not yours to turn. If you find one false, say at which input.
  Laid BY PROGRAM, IN A SANDBOX (cutbox-rows.mjs): the forced cells as the released guide's own fill.sh prints them over the translation 77b481a76edb765b… (all of the seat's roots in one cut). By AI agents, Wed Nov 11 2026. No macro, syntax, notation, axiom, sorry.
-/
import Derived.Test.Qxb6613492aChecked
import GoSem.Claim
import GoSem.ClaimJoined
import GoSem.ClaimMapViews
import Derived.JoinedTies
import Derived.KernelRfl
namespace Go.Proofs.Qxb6613492a
/- THE CELL 'sum', in the pinned program and in every row, IS THE sha256 OF THE DUMP (.gsa) THAT Qxb6613492aProg.lean LOADS. Nothing in Lean hashes anything: it is a label: what it is worth is what the hold of that sum in a sandbox is worth. -/
noncomputable def Try.pinned : Pinned := { name := "qxb6613492a", sum := "77b481a76edb765b96bc6100b8626026ea8ae8dd25714368a1bf8e7090cbc7d3", checked := Try.checked }
namespace Rows
def none {H : Type} : Left H := { results := [], args := [] }

/-- 'zzlaws_root_b1.FnCarriesSplitsAtAnyCut': WHATEVER THE INPUT: true; the input reads as it did. -/
def fnCarriesSplitsAtAnyCutSpec : ChangeSpec := { name := "fnCarriesSplitsAtAnyCut", fn := fun _ => fun
  | [d1, d2, d3, d4, d5, d6, d7, d8] => { results := [.lit (.bool true)], args := [d1, d2, d3, d4, d5, d6, d7, d8] }
  | _ => none }
def fnCarriesSplitsAtAnyCutRow : OpenClaim := { program := "qxb6613492a", sum := "77b481a76edb765b96bc6100b8626026ea8ae8dd25714368a1bf8e7090cbc7d3", func := "example.com/hawser/hawser/zzlaws_root_b1.FnCarriesSplitsAtAnyCut", spec := "fnCarriesSplitsAtAnyCut", apart := false }
def FnCarriesSplitsAtAnyCutSaid : Prop := fnCarriesSplitsAtAnyCutRow.holds Try.pinned (OpenSpec.ofChange fnCarriesSplitsAtAnyCutSpec)

/-- ITS FALSE NEIGHBOUR: 'it returns false'. Refute it at one input. -/
def fnCarriesSplitsAtAnyCutWrong : ChangeSpec := { name := "fnCarriesSplitsAtAnyCut", fn := fun _ => fun
  | [d1, d2, d3, d4, d5, d6, d7, d8] => { results := [.lit (.bool false)], args := [d1, d2, d3, d4, d5, d6, d7, d8] }
  | _ => none }
def FnCarriesSplitsAtAnyCutWrongFalsely : Prop := fnCarriesSplitsAtAnyCutRow.holds Try.pinned (OpenSpec.ofChange fnCarriesSplitsAtAnyCutWrong)

/-- 'zzlaws_root_b1.FnCarriesIgnoresShiftsAndLateHeight': WHATEVER THE INPUT: true; the input reads as it did. -/
def fnCarriesIgnoresShiftsAndLateHeightSpec : ChangeSpec := { name := "fnCarriesIgnoresShiftsAndLateHeight", fn := fun _ => fun
  | [d1, d2, d3, d4, d5, d6, d7, d8, d9, d10] => { results := [.lit (.bool true)], args := [d1, d2, d3, d4, d5, d6, d7, d8, d9, d10] }
  | _ => none }
def fnCarriesIgnoresShiftsAndLateHeightRow : OpenClaim := { program := "qxb6613492a", sum := "77b481a76edb765b96bc6100b8626026ea8ae8dd25714368a1bf8e7090cbc7d3", func := "example.com/hawser/hawser/zzlaws_root_b1.FnCarriesIgnoresShiftsAndLateHeight", spec := "fnCarriesIgnoresShiftsAndLateHeight", apart := false }
def FnCarriesIgnoresShiftsAndLateHeightSaid : Prop := fnCarriesIgnoresShiftsAndLateHeightRow.holds Try.pinned (OpenSpec.ofChange fnCarriesIgnoresShiftsAndLateHeightSpec)

/-- ITS FALSE NEIGHBOUR: 'it returns false'. Refute it at one input. -/
def fnCarriesIgnoresShiftsAndLateHeightWrong : ChangeSpec := { name := "fnCarriesIgnoresShiftsAndLateHeight", fn := fun _ => fun
  | [d1, d2, d3, d4, d5, d6, d7, d8, d9, d10] => { results := [.lit (.bool false)], args := [d1, d2, d3, d4, d5, d6, d7, d8, d9, d10] }
  | _ => none }
def FnCarriesIgnoresShiftsAndLateHeightWrongFalsely : Prop := fnCarriesIgnoresShiftsAndLateHeightRow.holds Try.pinned (OpenSpec.ofChange fnCarriesIgnoresShiftsAndLateHeightWrong)

end Rows
end Go.Proofs.Qxb6613492a
