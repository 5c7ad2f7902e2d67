/-
  zzSameBytes says true of two slices that hold the same bytes.
-/
import Derived.Test.Qxb6612609aDoorBase
import Derived.Deep.QuietTactic
import Derived.BigQuiet
namespace Go.Proofs.Qxb6612609aDoor
open Go.RowKit

set_option maxHeartbeats 1000000 in
theorem same_any (F G : Nat → Prop) (va vb : Value) (l : List UInt8) (w : World) (ha : Held w F va l) (hb : Held w G vb l) :
    Calls Tryd.prog 9 #[va, vb] w fun e w' => e = .returned (.bool true) ∧ Below w.heap.size w w' := by
  obtain ⟨pa, ca, rfl, la, ma, _, da⟩ := ha
  obtain ⟨pb, cb, rfl, lb, mb, _, db⟩ := hb
  unfold maxLen at ma mb
  have hne : ((l.length : Int) != (l.length : Int)) = false := by simp
  go_enter Tryd.func9, Tryd.ntmps9
  go_wp2
  go_loopw [5] (fun i wr => ∃ (k : Nat), k ≤ l.length ∧ i = .int .i64 k ∧ ∃ q, wr = w.drewN q) (fun i _ => l.length - (intOf i).toNat)
  case atStart => exact ⟨0, by omega, rfl, 0, rfl⟩
  case round =>
    obtain ⟨k, hk, rfl, q, rfl⟩ := hrel
    by_cases hlt : k < l.length
    · obtain ⟨ba, oa, rfl, _, ka⟩ := da (by omega)
      obtain ⟨bb, ob, rfl, _, kb⟩ := db (by omega)
      have xa : w.cell? ⟨ba, oa + k, none⟩ = some (.int .u8 ((l[k]'hlt).toNat : Int)) := ka k _ (List.getElem?_eq_getElem hlt)
      have xb : w.cell? ⟨bb, ob + k, none⟩ = some (.int .u8 ((l[k]'hlt).toNat : Int)) := kb k _ (List.getElem?_eq_getElem hlt)
      have i0 : (0 : Int) ≤ (k : Int) := by omega
      have i1 : (k : Int) < (l.length : Int) := by omega
      clear da db ka kb
      go_wp2
      go_quiet (fail)
      go_wp2
      go_roundw
      case rel => exact ⟨k + 1, by omega, by go_num, _, rfl⟩
      case measure => simp [intOf]; omega
    · go_wp2
      go_ret
      exact ⟨rfl, below_drewN (Below.refl _ _) _⟩

end Go.Proofs.Qxb6612609aDoor
