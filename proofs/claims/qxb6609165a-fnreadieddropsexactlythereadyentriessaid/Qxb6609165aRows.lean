/-
  No cell of these rows narrows 'for every input' (looked for: loops, veiled, ifaces, maps, wideKeys, modest, calm, conditions, laid).
  DERIVED. THE GIVEN ROWS OF THIS SEAT. 3 by the template 'for every input the law returns true; each argument reads behind the call as it read before'; 0 by the template 'total and deterministic' (their statements: Qxb6609165aTotals.lean).
  GIVEN WITH THE SEED: the statements are not yours to turn. If you find one false, say at which input.
  Laid BY PROGRAM, IN A SANDBOX (cutbox-rows.mjs): the forced cells as the released guide's own fill.sh prints them over the translation c25b9dd85cfe4824… (all of the seat's roots in one cut). By AI agents, Wed Nov 11 2026. No macro, syntax, notation, axiom, sorry.
-/
import Derived.Test.Qxb6609165aChecked
import GoSem.Claim
import GoSem.ClaimJoined
import GoSem.ClaimMapViews
import Derived.JoinedTies
import Derived.KernelRfl
namespace Go.Proofs.Qxb6609165a
/- THE CELL 'sum', in the pinned program and in every row, IS THE sha256 OF THE DUMP (.gsa) THAT Qxb6609165aProg.lean LOADS. Nothing in Lean hashes anything: it is a label: what it is worth is what the hold of that sum in a sandbox is worth. -/
noncomputable def Try.pinned : Pinned := { name := "qxb6609165a", sum := "c25b9dd85cfe482489163e155d0d9e25106d5708b438ba4cf4ee07248dd6f862", checked := Try.checked }
namespace Rows
def none {H : Type} : Left H := { results := [], args := [] }

/-- 'zzlaws_pkg_table_b1.FnAddressesFromListsNamedNodesWithTheirAddresses': WHATEVER THE INPUT: true; the input reads as it did. -/
def fnAddressesFromListsNamedNodesWithTheirAddressesSpec : ChangeSpec := { name := "fnAddressesFromListsNamedNodesWithTheirAddresses", fn := fun _ => fun
  | [d1, d2, d3, d4, d5] => { results := [.lit (.bool true)], args := [d1, d2, d3, d4, d5] }
  | _ => none }
def fnAddressesFromListsNamedNodesWithTheirAddressesRow : OpenClaim := { program := "qxb6609165a", sum := "c25b9dd85cfe482489163e155d0d9e25106d5708b438ba4cf4ee07248dd6f862", func := "example.com/slotwise/slotwise/zzlaws_pkg_table_b1.FnAddressesFromListsNamedNodesWithTheirAddresses", spec := "fnAddressesFromListsNamedNodesWithTheirAddresses", unfollowed := true, recurses := true, apart := false }
def FnAddressesFromListsNamedNodesWithTheirAddressesSaid : Prop := fnAddressesFromListsNamedNodesWithTheirAddressesRow.holds Try.pinned (OpenSpec.ofChange fnAddressesFromListsNamedNodesWithTheirAddressesSpec)

/-- ITS FALSE NEIGHBOUR: 'it returns false'. Refute it at one input. -/
def fnAddressesFromListsNamedNodesWithTheirAddressesWrong : ChangeSpec := { name := "fnAddressesFromListsNamedNodesWithTheirAddresses", fn := fun _ => fun
  | [d1, d2, d3, d4, d5] => { results := [.lit (.bool false)], args := [d1, d2, d3, d4, d5] }
  | _ => none }
def FnAddressesFromListsNamedNodesWithTheirAddressesWrongFalsely : Prop := fnAddressesFromListsNamedNodesWithTheirAddressesRow.holds Try.pinned (OpenSpec.ofChange fnAddressesFromListsNamedNodesWithTheirAddressesWrong)

/-- 'zzlaws_pkg_table_b1.FnReadiedDropsExactlyTheReadyEntries': WHATEVER THE INPUT: true; the input reads as it did. -/
def fnReadiedDropsExactlyTheReadyEntriesSpec : ChangeSpec := { name := "fnReadiedDropsExactlyTheReadyEntries", fn := fun _ => fun
  | [d1, d2, d3, d4, d5] => { results := [.lit (.bool true)], args := [d1, d2, d3, d4, d5] }
  | _ => none }
def fnReadiedDropsExactlyTheReadyEntriesRow : OpenClaim := { program := "qxb6609165a", sum := "c25b9dd85cfe482489163e155d0d9e25106d5708b438ba4cf4ee07248dd6f862", func := "example.com/slotwise/slotwise/zzlaws_pkg_table_b1.FnReadiedDropsExactlyTheReadyEntries", spec := "fnReadiedDropsExactlyTheReadyEntries", inPlace := ["internal/bytealg.abigen_runtime_cmpstring"], unfollowed := true, recurses := true, apart := false }
def FnReadiedDropsExactlyTheReadyEntriesSaid : Prop := fnReadiedDropsExactlyTheReadyEntriesRow.holds Try.pinned (OpenSpec.ofChange fnReadiedDropsExactlyTheReadyEntriesSpec)

/-- ITS FALSE NEIGHBOUR: 'it returns false'. Refute it at one input. -/
def fnReadiedDropsExactlyTheReadyEntriesWrong : ChangeSpec := { name := "fnReadiedDropsExactlyTheReadyEntries", fn := fun _ => fun
  | [d1, d2, d3, d4, d5] => { results := [.lit (.bool false)], args := [d1, d2, d3, d4, d5] }
  | _ => none }
def FnReadiedDropsExactlyTheReadyEntriesWrongFalsely : Prop := fnReadiedDropsExactlyTheReadyEntriesRow.holds Try.pinned (OpenSpec.ofChange fnReadiedDropsExactlyTheReadyEntriesWrong)

/-- 'zzlaws_pkg_table_b1.FnReadiedTwoRoundsAsOne': WHATEVER THE INPUT: true; the input reads as it did. -/
def fnReadiedTwoRoundsAsOneSpec : ChangeSpec := { name := "fnReadiedTwoRoundsAsOne", fn := fun _ => fun
  | [d1, d2, d3, d4, d5, d6] => { results := [.lit (.bool true)], args := [d1, d2, d3, d4, d5, d6] }
  | _ => none }
def fnReadiedTwoRoundsAsOneRow : OpenClaim := { program := "qxb6609165a", sum := "c25b9dd85cfe482489163e155d0d9e25106d5708b438ba4cf4ee07248dd6f862", func := "example.com/slotwise/slotwise/zzlaws_pkg_table_b1.FnReadiedTwoRoundsAsOne", spec := "fnReadiedTwoRoundsAsOne", inPlace := ["internal/bytealg.abigen_runtime_cmpstring"], unfollowed := true, recurses := true, apart := false }
def FnReadiedTwoRoundsAsOneSaid : Prop := fnReadiedTwoRoundsAsOneRow.holds Try.pinned (OpenSpec.ofChange fnReadiedTwoRoundsAsOneSpec)

/-- ITS FALSE NEIGHBOUR: 'it returns false'. Refute it at one input. -/
def fnReadiedTwoRoundsAsOneWrong : ChangeSpec := { name := "fnReadiedTwoRoundsAsOne", fn := fun _ => fun
  | [d1, d2, d3, d4, d5, d6] => { results := [.lit (.bool false)], args := [d1, d2, d3, d4, d5, d6] }
  | _ => none }
def FnReadiedTwoRoundsAsOneWrongFalsely : Prop := fnReadiedTwoRoundsAsOneRow.holds Try.pinned (OpenSpec.ofChange fnReadiedTwoRoundsAsOneWrong)

end Rows
end Go.Proofs.Qxb6609165a
