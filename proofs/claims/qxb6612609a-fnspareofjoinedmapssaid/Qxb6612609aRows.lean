/-
  No cell of these rows narrows 'for every input' (looked for: loops, veiled, ifaces, maps, wideKeys, modest, calm, conditions, laid).
  DERIVED. THE GIVEN ROWS OF THIS SEAT. 2 by the template 'for every input the law returns true; each argument reads behind the call as it read before'; 0 by the template 'total and deterministic' (their statements: Qxb6612609aTotals.lean).
  GIVEN WITH THE SEED: the statements are not yours to turn. If you find one false, say at which input.
  Laid BY PROGRAM, IN A SANDBOX (cutbox-rows.mjs): the forced cells as the released guide's own fill.sh prints them over the translation 1998777f8ff69541… (all of the seat's roots in one cut). By AI agents, Wed Nov 11 2026. No macro, syntax, notation, axiom, sorry.
-/
import Derived.Test.Qxb6612609aChecked
import GoSem.Claim
import GoSem.ClaimJoined
import GoSem.ClaimMapViews
import Derived.JoinedTies
import Derived.KernelRfl
namespace Go.Proofs.Qxb6612609a
/- THE CELL 'sum', in the pinned program and in every row, IS THE sha256 OF THE DUMP (.gsa) THAT Qxb6612609aProg.lean LOADS. Nothing in Lean hashes anything: it is a label: what it is worth is what the hold of that sum in a sandbox is worth. -/
noncomputable def Try.pinned : Pinned := { name := "qxb6612609a", sum := "1998777f8ff69541279e10919fb530458985c308ac487df9f412a56f1a903567", checked := Try.checked }
namespace Rows
def none {H : Type} : Left H := { results := [], args := [] }

/-- 'zzlaws_ceph_b1.FnSpareOneMoreMonitor': WHATEVER THE INPUT: true; the input reads as it did. -/
def fnSpareOneMoreMonitorSpec : ChangeSpec := { name := "fnSpareOneMoreMonitor", fn := fun _ => fun
  | [d1, d2, d3] => { results := [.lit (.bool true)], args := [d1, d2, d3] }
  | _ => none }
def fnSpareOneMoreMonitorRow : OpenClaim := { program := "qxb6612609a", sum := "1998777f8ff69541279e10919fb530458985c308ac487df9f412a56f1a903567", func := "example.com/drainwarden/drainwarden/zzlaws_ceph_b1.FnSpareOneMoreMonitor", spec := "fnSpareOneMoreMonitor", apart := false }
def FnSpareOneMoreMonitorSaid : Prop := fnSpareOneMoreMonitorRow.holds Try.pinned (OpenSpec.ofChange fnSpareOneMoreMonitorSpec)

/-- ITS FALSE NEIGHBOUR: 'it returns false'. Refute it at one input. -/
def fnSpareOneMoreMonitorWrong : ChangeSpec := { name := "fnSpareOneMoreMonitor", fn := fun _ => fun
  | [d1, d2, d3] => { results := [.lit (.bool false)], args := [d1, d2, d3] }
  | _ => none }
def FnSpareOneMoreMonitorWrongFalsely : Prop := fnSpareOneMoreMonitorRow.holds Try.pinned (OpenSpec.ofChange fnSpareOneMoreMonitorWrong)

/-- 'zzlaws_ceph_b1.FnSpareOfJoinedMaps': WHATEVER THE INPUT: true; the input reads as it did. -/
def fnSpareOfJoinedMapsSpec : ChangeSpec := { name := "fnSpareOfJoinedMaps", fn := fun _ => fun
  | [d1, d2, d3] => { results := [.lit (.bool true)], args := [d1, d2, d3] }
  | _ => none }
def fnSpareOfJoinedMapsRow : OpenClaim := { program := "qxb6612609a", sum := "1998777f8ff69541279e10919fb530458985c308ac487df9f412a56f1a903567", func := "example.com/drainwarden/drainwarden/zzlaws_ceph_b1.FnSpareOfJoinedMaps", spec := "fnSpareOfJoinedMaps", apart := false }
def FnSpareOfJoinedMapsSaid : Prop := fnSpareOfJoinedMapsRow.holds Try.pinned (OpenSpec.ofChange fnSpareOfJoinedMapsSpec)

/-- ITS FALSE NEIGHBOUR: 'it returns false'. Refute it at one input. -/
def fnSpareOfJoinedMapsWrong : ChangeSpec := { name := "fnSpareOfJoinedMaps", fn := fun _ => fun
  | [d1, d2, d3] => { results := [.lit (.bool false)], args := [d1, d2, d3] }
  | _ => none }
def FnSpareOfJoinedMapsWrongFalsely : Prop := fnSpareOfJoinedMapsRow.holds Try.pinned (OpenSpec.ofChange fnSpareOfJoinedMapsWrong)

end Rows
end Go.Proofs.Qxb6612609a
