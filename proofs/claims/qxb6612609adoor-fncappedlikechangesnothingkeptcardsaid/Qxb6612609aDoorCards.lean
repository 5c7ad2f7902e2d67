/-
  DERIVED. GIVEN WITH THE SEED: THE CARDS: each row of Qxb6612609aDoorRows.lean that lists a variable, with what it lists TIED to the program's text (the seventh form; the later family's looks); each row that meets fmt, with fmt's text TOLD by the authors' own Lean function (tested against real Go, not proved from fmt's source: count such statements apart). THE CARD IS WHAT COUNTS. Prove the row's statement (the work); the ties are given (Qxb6612609aDoorTie.lean); close each card by the builder's one call (the guide's Derived/Test/ToyasCard.lean, 'card_holds'). Laid BY PROGRAM, IN A SANDBOX (cutbox-door.mjs). By AI agents, Wed Nov 11 2026. No macro, syntax, notation, axiom, sorry.
-/
import Derived.Test.Qxb6612609aDoorRows
import GoSem.ClaimSeven
namespace Go.Proofs.Qxb6612609aDoor
namespace Rows

/-- THE TIED CARD OF 'zzlaws_ceph_b1.FnCappedKeepsFirstFittingWrites'. -/
def fnCappedKeepsFirstFittingWritesCard : Claim7 := { stood := { row := fnCappedKeepsFirstFittingWritesRow, standIns := [], harness := (true, "3bf5883e9fbbce02dd8da35cbe191331a5068b4298fb95d242432d77a6c1089a"), looks := false }, kinds := [], alts := [], laidByText := true, laidKinds := [.sentinel], laidTests := true, laidLooks := .later }
def FnCappedKeepsFirstFittingWritesCardSaid : Prop := Claim7.holds Tryd.pinned (.plain (OpenSpec.ofChange fnCappedKeepsFirstFittingWritesSpec)) fnCappedKeepsFirstFittingWritesCard

/-- THE TIED CARD OF 'zzlaws_ceph_b1.FnCappedLikeChangesNothingKept'. -/
def fnCappedLikeChangesNothingKeptCard : Claim7 := { stood := { row := fnCappedLikeChangesNothingKeptRow, standIns := [], harness := (true, "3bf5883e9fbbce02dd8da35cbe191331a5068b4298fb95d242432d77a6c1089a"), looks := false }, kinds := [], alts := [], laidByText := true, laidKinds := [.sentinel], laidTests := true, laidLooks := .later }
def FnCappedLikeChangesNothingKeptCardSaid : Prop := Claim7.holds Tryd.pinned (.plain (OpenSpec.ofChange fnCappedLikeChangesNothingKeptSpec)) fnCappedLikeChangesNothingKeptCard
end Rows
end Go.Proofs.Qxb6612609aDoor
