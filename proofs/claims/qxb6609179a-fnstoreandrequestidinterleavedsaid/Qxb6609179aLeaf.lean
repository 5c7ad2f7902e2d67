/-
  The context's small functions.
-/
import Derived.Test.Qxb6609179aBase
namespace Go.Proofs.Qxb6609179a
open Go.RowKit

theorem info75 : (Try.prog.info? 75).map (fun i => (i.zero, i.size, i.bytes)) = some (some (.agg #[.string ByteArray.empty, .nilIface, .bool false]), 3, 40) := by kernel_rfl
theorem info72 : (Try.prog.info? 72).map (fun i => (i.zero, i.size, i.bytes)) = some (some (.agg #[.nilIface, .int .i32 0, .int .i64 0, .int .u32 0, .pointer none, .slice none 0 0, .nilIface, .int .i64 0, .bool false, .map none, .string ByteArray.empty, .int .i32 0, .int .u32 0, .slice none 0 0, .pointer none, .slice none 0 0, .nilIface, .pointer none, .map none, .int .i64 0, .pointer none]), 21, 240) := by kernel_rfl

/-- A context: its map's value, its id. -/
structure Ctx (w : World) (C : Nat) (mv : Value) (id : ByteArray) : Prop where
  c9 : w.cell? ⟨C, 9, none⟩ = some mv
  c10 : w.cell? ⟨C, 10, none⟩ = some (.string id)
  f9 : w.frozen? ⟨C, 9, none⟩ = false
  f10 : w.frozen? ⟨C, 10, none⟩ = false

set_option maxHeartbeats 1000000 in
theorem new_any (id : ByteArray) (w : World) : Calls Try.prog 7 #[.string id] w (fun e w' => e = .returned (.pointer (some ⟨w.heap.size, 0, none⟩)) ∧ Below w.heap.size w w' ∧ Ctx w' w.heap.size (.map none) id) := by
  go_enter Try.func7, Try.ntmps7
  go_wp2
  go_ret
  refine ⟨rfl, (Below.refl _ _).alloc (Nat.le_refl _) _, ?_⟩
  constructor <;> simp

set_option maxHeartbeats 1000000 in
theorem setID_any (C : Nat) (mv : Value) (id s : ByteArray) (w : World) (h : Ctx w C mv id) : Calls Try.prog 8 #[.pointer (some ⟨C, 0, none⟩), .string s] w (fun e w' => e = .returned (.tuple #[]) ∧ w' = w.setCell ⟨C, 10, none⟩ (.string s)) := by
  obtain ⟨c9, c10, f9, f10⟩ := h
  go_enter Try.func8, Try.ntmps8
  go_wp2
  go_end0
  exact ⟨rfl, rfl⟩

set_option maxHeartbeats 1000000 in
theorem getID_any (C : Nat) (mv : Value) (id : ByteArray) (w : World) (h : Ctx w C mv id) : Calls Try.prog 10 #[.pointer (some ⟨C, 0, none⟩)] w (fun e w' => e = .returned (.string id) ∧ w' = w) := by
  obtain ⟨c9, c10, f9, f10⟩ := h
  go_enter Try.func10, Try.ntmps10
  go_wp2
  go_ret
  exact ⟨rfl, rfl⟩

end Go.Proofs.Qxb6609179a
