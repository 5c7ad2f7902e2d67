/-
  No cell of these rows narrows 'for every input' (looked for: loops, veiled, ifaces, maps, wideKeys, modest, calm, conditions, laid).
  DERIVED. THE GIVEN ROWS OF THIS SEAT. 1 by the template 'for every input the law returns true; each argument reads behind the call as it read before'; 0 by the template 'total and deterministic' (their statements: Qxb6609179aTotals.lean).
  GIVEN WITH THE SEED: the statements are not yours to turn. If you find one false, say at which input.
  Laid BY PROGRAM, IN A SANDBOX (cutbox-rows.mjs): the forced cells as the released guide's own fill.sh prints them over the translation 1e119842e7f8a9a1… (all of the seat's roots in one cut). By AI agents, Wed Nov 11 2026. No macro, syntax, notation, axiom, sorry.
-/
import Derived.Test.Qxb6609179aChecked
import GoSem.Claim
import GoSem.ClaimJoined
import GoSem.ClaimMapViews
import Derived.JoinedTies
import Derived.KernelRfl
namespace Go.Proofs.Qxb6609179a
/- THE CELL 'sum', in the pinned program and in every row, IS THE sha256 OF THE DUMP (.gsa) THAT Qxb6609179aProg.lean LOADS. Nothing in Lean hashes anything: it is a label: what it is worth is what the hold of that sum in a sandbox is worth. -/
noncomputable def Try.pinned : Pinned := { name := "qxb6609179a", sum := "1e119842e7f8a9a12941c5f95b3c2b7115c2907acaa7e67670f8f1d3e74a253d", checked := Try.checked }
namespace Rows
def none {H : Type} : Left H := { results := [], args := [] }

/-- 'zzlaws_root_b1.FnStoreAndRequestIDInterleaved': WHATEVER THE INPUT: true; the input reads as it did. -/
def fnStoreAndRequestIDInterleavedSpec : ChangeSpec := { name := "fnStoreAndRequestIDInterleaved", fn := fun _ => fun
  | [d1, d2, d3, d4] => { results := [.lit (.bool true)], args := [d1, d2, d3, d4] }
  | _ => none }
def fnStoreAndRequestIDInterleavedRow : OpenClaim := { program := "qxb6609179a", sum := "1e119842e7f8a9a12941c5f95b3c2b7115c2907acaa7e67670f8f1d3e74a253d", func := "example.com/tidy-chain/tidy-chain/zzlaws_root_b1.FnStoreAndRequestIDInterleaved", spec := "fnStoreAndRequestIDInterleaved", apart := false }
def FnStoreAndRequestIDInterleavedSaid : Prop := fnStoreAndRequestIDInterleavedRow.holds Try.pinned (OpenSpec.ofChange fnStoreAndRequestIDInterleavedSpec)

/-- ITS FALSE NEIGHBOUR: 'it returns false'. Refute it at one input. -/
def fnStoreAndRequestIDInterleavedWrong : ChangeSpec := { name := "fnStoreAndRequestIDInterleaved", fn := fun _ => fun
  | [d1, d2, d3, d4] => { results := [.lit (.bool false)], args := [d1, d2, d3, d4] }
  | _ => none }
def FnStoreAndRequestIDInterleavedWrongFalsely : Prop := fnStoreAndRequestIDInterleavedRow.holds Try.pinned (OpenSpec.ofChange fnStoreAndRequestIDInterleavedWrong)

end Rows
end Go.Proofs.Qxb6609179a
