/-
  DERIVED. GIVEN WITH THE SEED: THE CARDS: each row of Qxb6609179aDoorRows.lean that lists a variable, with what it lists TIED to the program's text (the seventh form; the later family's looks); each row that meets fmt, with fmt's text TOLD by the authors' own Lean function (tested against real Go, not proved from fmt's source: count such statements apart). THE CARD IS WHAT COUNTS. Prove the row's statement (the work); the ties are given (Qxb6609179aDoorTie.lean); close each card by the builder's one call (the guide's Derived/Test/ToyasCard.lean, 'card_holds'). Laid BY PROGRAM, IN A SANDBOX (cutbox-door.mjs). By AI agents, Wed Nov 11 2026. No macro, syntax, notation, axiom, sorry.
-/
import Derived.Test.Qxb6609179aDoorRows
import GoSem.ClaimSeven
namespace Go.Proofs.Qxb6609179aDoor
namespace Rows

/-- THE TIED CARD OF 'zzlaws_root_b1.FnStartBodySnapshotLasts'. -/
def fnStartBodySnapshotLastsCard : Claim7 := { stood := { row := fnStartBodySnapshotLastsRow, standIns := [], harness := (true, "cecad2f09bd31f8293d4a8d6af84bc09d477300dba1e34f4326d2582ffe69db0"), looks := false }, kinds := [], alts := [], laidByText := true, laidKinds := [.sentinel], laidTests := true, laidLooks := .later }
def FnStartBodySnapshotLastsCardSaid : Prop := Claim7.holds Tryd.pinned (.plain (OpenSpec.ofChange fnStartBodySnapshotLastsSpec)) fnStartBodySnapshotLastsCard
end Rows
end Go.Proofs.Qxb6609179aDoor
