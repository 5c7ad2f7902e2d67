/-
  zzMonitors: a new row of as many monitors as there are names.
-/
import Derived.Test.Qxb6612609aLeaf
namespace Go.Proofs.Qxb6612609a
open Go.RowKit

theorem info33 : (Try.prog.info? 33).map (fun i => (i.zero, i.size, i.bytes)) = some (some (.agg #[.string ⟨#[]⟩]), 1, 16) := by kernel_rfl

/-- What zzMonitors leaves: a slice of n monitors over a new block of the call's own; nothing old has turned. -/
def Mons (n : Nat) (w : World) (e : Ending) (w' : World) : Prop :=
  ∃ g cap xs, e = .returned (.slice (some ⟨g, 0, none⟩) n cap) ∧ w'.ownsRow w.heap.size 33 1 (.slice (some ⟨g, 0, none⟩) n cap) n xs ∧ w.heap.size ≤ g ∧ g < w'.heap.size ∧ Below w.heap.size w w'

theorem monitors_any (a : Option Addr) (n c : Nat) (w : World) (ha : Strs w a n) (hn : n ≤ 65536) (hold : ∀ b off, a = some ⟨b, off, none⟩ → 0 < n → b < w.heap.size) :
    Calls Try.prog 7 #[.slice a n c] w (Mons n w) := by
  obtain ⟨i0, hi, hz0, hz1, hz2⟩ := info_parts info33
  go_enter Try.func7, Try.ntmps7
  go_wp2_with (at_make; refine wpList_make_own _ rfl _ _ 26 rfl w.heap.size 33 i0 (.agg #[.string ⟨#[]⟩]) 1 Try.underlying26 hi hz0 hz1 .i64 .i64 _ (n + 1) rfl rfl (by omega) (by rw [hz2]; omega) (by unfold maxLen; omega) (Nat.le_refl _) ?_; intro w0 hown0 hgrow0)
  go_loopw [3, 4] (fun v i wr => ∃ (k : Nat) (xs : List Value), k ≤ n ∧ i = .int .i64 k ∧ v = .slice (some ⟨w.heap.size, 0, none⟩) k (n + 1) ∧ wr.ownsRow w.heap.size 33 1 (.slice (some ⟨w.heap.size, 0, none⟩) k (n + 1)) k xs ∧ Below w.heap.size w wr ∧ w.heap.size < wr.heap.size)
    (fun _ i _ => n - (intOf i).toNat)
  case atStart => exact ⟨0, [], by omega, rfl, rfl, hown0, (Below.refl _ _).grown hgrow0 (Nat.le_refl _) (fun k h => by cases h), (hown0.lt w.heap.size rfl).2⟩
  case round =>
    obtain ⟨k, xs, hk, rfl, rfl, hown, hnx, hsz⟩ := hrel
    by_cases hlt : k < n
    · obtain ⟨pb, po, s, rfl, hcell0, hs⟩ := ha k hlt
      have hb := hold pb po rfl (by omega)
      have hcell : wr.cell? ⟨pb, po + k, none⟩ = some (.string s) := (hnx.cell hb).trans hcell0
      clear hcell0
      go_wp2_with (at_builtin; refine wpList_append_fits _ rfl _ _ 26 rfl w.heap.size 33 i0 1 Try.underlying26 hi hz1 w.heap.size k (n + 1) xs rfl (hown.alloc _) ⟨wr.heap.size, 0, none⟩ 1 1 [.string s] rfl rfl (cell_one_new _ _ _) (by intro u hu; simp at hu; subst hu; rfl) (by omega) ?_; intro w1 hown1 hgrow1)
      go_roundw
      case rel => exact ⟨k + 1, _, by omega, by go_num, rfl, hown1, (hnx.alloc (by omega) _).grown hgrow1 (by simp; omega) (fun j hj => by cases hj; omega), (hown1.lt w.heap.size rfl).2⟩
      case measure => simp [intOf]; omega
    · go_wp2
      go_ret
      have : k = n := by omega
      subst this
      exact ⟨w.heap.size, k + 1, xs, rfl, hown, Nat.le_refl _, hsz, hnx⟩

end Go.Proofs.Qxb6612609a
