/-
  NARROWER THAN 'FOR EVERY INPUT', by the rows' own cells (each row's printed sentence says how): FnCappedKeepsFirstFittingWrites: ifaces, laid · FnCappedLikeChangesNothingKept: ifaces, laid.
  DERIVED. THE GIVEN ROWS OF THIS SEAT. 2 by the template 'for every input the law returns true; each argument reads behind the call as it read before'; 0 by the template 'total and deterministic' (their statements: Qxb6612609aDoorTotals.lean).
  GIVEN WITH THE SEED: the statements are not yours to turn. If you find one false, say at which input.
  Laid BY PROGRAM, IN A SANDBOX (cutbox-rows.mjs): the forced cells as the released guide's own fill.sh prints them over the translation 570cb43fc2d537ee… (all of the seat's roots in one cut). By AI agents, Wed Nov 11 2026. No macro, syntax, notation, axiom, sorry.
-/
import Derived.Test.Qxb6612609aDoorChecked
import GoSem.Claim
import GoSem.ClaimJoined
import GoSem.ClaimMapViews
import Derived.JoinedTies
import Derived.KernelRfl
namespace Go.Proofs.Qxb6612609aDoor
/- THE CELL 'sum', in the pinned program and in every row, IS THE sha256 OF THE DUMP (.gsa) THAT Qxb6612609aDoorProg.lean LOADS. Nothing in Lean hashes anything: it is a label: what it is worth is what the hold of that sum in a sandbox is worth. -/
noncomputable def Tryd.pinned : Pinned := { name := "qxb6612609adoor", sum := "570cb43fc2d537ee1a97f605042a5a4ce96c122a82d07206bfc3315d66e314d2", checked := Tryd.checked }
namespace Rows
def none {H : Type} : Left H := { results := [], args := [] }

/- WHAT THE LISTED PACKAGE-LEVEL VARIABLES READ AS WHEN THE CALL BEGINS. Each datum BY PROGRAM (the guide's laid-datum.mjs) off the statement by which the dump's own 'gosem.cut.vars' lays the variable. In a bare row this is a premise. The card (Qxb6612609aDoorCards.lean) ties it to the program's text. -/
def laid_example_com_drainwarden_drainwarden_ceph_errPastLimit {H : Type} : DataW H := .iface "*errors.errorString" (.ptr (.agg [.lit (.string [112, 97, 115, 116, 32, 116, 104, 101, 32, 108, 105, 109, 105, 116, 32, 111, 102, 32, 119, 104, 97, 116, 32, 105, 115, 32, 107, 101, 112, 116])]))

/-- 'zzlaws_ceph_b1.FnCappedKeepsFirstFittingWrites': WHATEVER THE INPUT: true; the input reads as it did. -/
def fnCappedKeepsFirstFittingWritesSpec : ChangeSpec := { name := "fnCappedKeepsFirstFittingWrites", vars := ["example.com/drainwarden/drainwarden/ceph.errPastLimit"], fn := fun _ => fun
  | [d1, d2, g1] => { results := [.lit (.bool true)], args := [d1, d2], vars := [g1] }
  | _ => none }
def fnCappedKeepsFirstFittingWritesRow : OpenClaim := { program := "qxb6612609adoor", sum := "570cb43fc2d537ee1a97f605042a5a4ce96c122a82d07206bfc3315d66e314d2", func := "example.com/drainwarden/drainwarden/zzlaws_ceph_b1.FnCappedKeepsFirstFittingWrites", spec := "fnCappedKeepsFirstFittingWrites", inPlace := ["internal/bytealg.MakeNoZero"], unfollowed := true, recurses := true, named := ["example.com/drainwarden/drainwarden/ceph.errPastLimit"], ifaces := true, apart := false, laid := [("example.com/drainwarden/drainwarden/ceph.errPastLimit", laid_example_com_drainwarden_drainwarden_ceph_errPastLimit)] }
def FnCappedKeepsFirstFittingWritesSaid : Prop := fnCappedKeepsFirstFittingWritesRow.holds Tryd.pinned (OpenSpec.ofChange fnCappedKeepsFirstFittingWritesSpec)

/-- ITS FALSE NEIGHBOUR: 'it returns false'. Refute it at one input. -/
def fnCappedKeepsFirstFittingWritesWrong : ChangeSpec := { name := "fnCappedKeepsFirstFittingWrites", vars := ["example.com/drainwarden/drainwarden/ceph.errPastLimit"], fn := fun _ => fun
  | [d1, d2, g1] => { results := [.lit (.bool false)], args := [d1, d2], vars := [g1] }
  | _ => none }
def FnCappedKeepsFirstFittingWritesWrongFalsely : Prop := fnCappedKeepsFirstFittingWritesRow.holds Tryd.pinned (OpenSpec.ofChange fnCappedKeepsFirstFittingWritesWrong)

/-- 'zzlaws_ceph_b1.FnCappedLikeChangesNothingKept': WHATEVER THE INPUT: true; the input reads as it did. -/
def fnCappedLikeChangesNothingKeptSpec : ChangeSpec := { name := "fnCappedLikeChangesNothingKept", vars := ["example.com/drainwarden/drainwarden/ceph.errPastLimit"], fn := fun _ => fun
  | [d1, d2, d3, g1] => { results := [.lit (.bool true)], args := [d1, d2, d3], vars := [g1] }
  | _ => none }
def fnCappedLikeChangesNothingKeptRow : OpenClaim := { program := "qxb6612609adoor", sum := "570cb43fc2d537ee1a97f605042a5a4ce96c122a82d07206bfc3315d66e314d2", func := "example.com/drainwarden/drainwarden/zzlaws_ceph_b1.FnCappedLikeChangesNothingKept", spec := "fnCappedLikeChangesNothingKept", inPlace := ["internal/bytealg.MakeNoZero"], unfollowed := true, recurses := true, named := ["example.com/drainwarden/drainwarden/ceph.errPastLimit"], ifaces := true, apart := false, laid := [("example.com/drainwarden/drainwarden/ceph.errPastLimit", laid_example_com_drainwarden_drainwarden_ceph_errPastLimit)] }
def FnCappedLikeChangesNothingKeptSaid : Prop := fnCappedLikeChangesNothingKeptRow.holds Tryd.pinned (OpenSpec.ofChange fnCappedLikeChangesNothingKeptSpec)

/-- ITS FALSE NEIGHBOUR: 'it returns false'. Refute it at one input. -/
def fnCappedLikeChangesNothingKeptWrong : ChangeSpec := { name := "fnCappedLikeChangesNothingKept", vars := ["example.com/drainwarden/drainwarden/ceph.errPastLimit"], fn := fun _ => fun
  | [d1, d2, d3, g1] => { results := [.lit (.bool false)], args := [d1, d2, d3], vars := [g1] }
  | _ => none }
def FnCappedLikeChangesNothingKeptWrongFalsely : Prop := fnCappedLikeChangesNothingKeptRow.holds Tryd.pinned (OpenSpec.ofChange fnCappedLikeChangesNothingKeptWrong)

end Rows
end Go.Proofs.Qxb6612609aDoor
