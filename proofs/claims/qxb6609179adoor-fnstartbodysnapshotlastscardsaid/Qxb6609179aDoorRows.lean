/-
  NARROWER THAN 'FOR EVERY INPUT', by the rows' own cells (each row's printed sentence says how): FnStartBodySnapshotLasts: laid.
  DERIVED. THE GIVEN ROWS OF THIS SEAT. 1 by the template 'for every input the law returns true; each argument reads behind the call as it read before'; 0 by the template 'total and deterministic' (their statements: Qxb6609179aDoorTotals.lean).
  GIVEN WITH THE SEED: the statements are not yours to turn. If you find one false, say at which input.
  Laid BY PROGRAM, IN A SANDBOX (cutbox-rows.mjs): the forced cells as the released guide's own fill.sh prints them over the translation 7746b5baa4821b61… (all of the seat's roots in one cut). By AI agents, Wed Nov 11 2026. No macro, syntax, notation, axiom, sorry.
-/
import Derived.Test.Qxb6609179aDoorChecked
import GoSem.Claim
import GoSem.ClaimJoined
import GoSem.ClaimMapViews
import Derived.JoinedTies
import Derived.KernelRfl
namespace Go.Proofs.Qxb6609179aDoor
/- THE CELL 'sum', in the pinned program and in every row, IS THE sha256 OF THE DUMP (.gsa) THAT Qxb6609179aDoorProg.lean LOADS. Nothing in Lean hashes anything: it is a label: what it is worth is what the hold of that sum in a sandbox is worth. -/
noncomputable def Tryd.pinned : Pinned := { name := "qxb6609179adoor", sum := "7746b5baa4821b616a9b1da5d9ddcc4f61f944277976f61d5b6537e668b685b0", checked := Tryd.checked }
namespace Rows
def none {H : Type} : Left H := { results := [], args := [] }

/- WHAT THE LISTED PACKAGE-LEVEL VARIABLES READ AS WHEN THE CALL BEGINS. Each datum BY PROGRAM (the guide's laid-datum.mjs) off the statement by which the dump's own 'gosem.cut.vars' lays the variable. In a bare row this is a premise. The card (Qxb6609179aDoorCards.lean) ties it to the program's text. -/
def laid_net_http_ErrHandlerTimeout {H : Type} : DataW H := .iface "*errors.errorString" (.ptr (.agg [.lit (.string [104, 116, 116, 112, 58, 32, 72, 97, 110, 100, 108, 101, 114, 32, 116, 105, 109, 101, 111, 117, 116])]))

/-- 'zzlaws_root_b1.FnStartBodySnapshotLasts': WHATEVER THE INPUT: true; the input reads as it did. -/
def fnStartBodySnapshotLastsSpec : ChangeSpec := { name := "fnStartBodySnapshotLasts", fn := fun _ => fun
  | [d1, d2] => { results := [.lit (.bool true)], args := [d1, d2] }
  | _ => none }
def fnStartBodySnapshotLastsRow : OpenClaim := { program := "qxb6609179adoor", sum := "7746b5baa4821b616a9b1da5d9ddcc4f61f944277976f61d5b6537e668b685b0", func := "example.com/tidy-chain/tidy-chain/zzlaws_root_b1.FnStartBodySnapshotLasts", spec := "fnStartBodySnapshotLasts", inPlace := ["sync/atomic.StoreInt32", "sync/atomic.LoadInt32"], named := ["net/http.ErrHandlerTimeout"], apart := false, laid := [("net/http.ErrHandlerTimeout", laid_net_http_ErrHandlerTimeout)] }
def FnStartBodySnapshotLastsSaid : Prop := fnStartBodySnapshotLastsRow.holds Tryd.pinned (OpenSpec.ofChange fnStartBodySnapshotLastsSpec)

/-- ITS FALSE NEIGHBOUR: 'it returns false'. Refute it at one input. -/
def fnStartBodySnapshotLastsWrong : ChangeSpec := { name := "fnStartBodySnapshotLasts", fn := fun _ => fun
  | [d1, d2] => { results := [.lit (.bool false)], args := [d1, d2] }
  | _ => none }
def FnStartBodySnapshotLastsWrongFalsely : Prop := fnStartBodySnapshotLastsRow.holds Tryd.pinned (OpenSpec.ofChange fnStartBodySnapshotLastsWrong)

end Rows
end Go.Proofs.Qxb6609179aDoor
