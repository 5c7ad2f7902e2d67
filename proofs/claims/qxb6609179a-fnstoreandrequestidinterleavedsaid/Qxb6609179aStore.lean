/-
  The context's map: store, GetString, its length.
-/
import Derived.Test.Qxb6609179aLeaf
namespace Go.Proofs.Qxb6609179a
open Go.RowKit

/-- What is stored for a string. -/
def strVal (s : ByteArray) : Value := .agg #[.string s, .nilIface, .bool true]

/-- The context's map holds f, in n entries; its block lies from B on. -/
def Vals (B : Nat) (w : World) (C : Nat) (mv : Value) (f : ByteArray → Option Value) (n : Nat) : Prop :=
  (mv = .map none ∧ (∀ s, f s = none) ∧ n = 0) ∨ ∃ M, mv = .map (some M) ∧ M ≠ C ∧ B ≤ M ∧ MapIs w M f n

theorem eqlmap (w : World) (r : Option Nat) : (binOp .eql 54 (.map r) (.map none)).run Try.prog w = .ok (.bool r.isNone) w := run_eql_map_nil w 54 9 75 r Try.underlying54

theorem zero75 (w : World) : (zeroValue 75).run Try.prog w = .ok (.agg #[.string ByteArray.empty, .nilIface, .bool false]) w := by
  obtain ⟨i0, hi0, hz0, _⟩ := info_parts info75
  simp [zeroValue, typeInfo, hi0, hz0, Result.andThen]

theorem below_alloc (w : World) (o : Obj) : Below w.heap.size w (w.alloc o) := (Below.refl _ _).alloc (Nat.le_refl _) o

theorem Ctx.later {w w' : World} {C : Nat} {mv : Value} {id : ByteArray} (h : Ctx w C mv id) (hb : Below w.heap.size w w') : Ctx w' C mv id :=
  ⟨cell_later hb h.c9, cell_later hb h.c10, by rw [hb.frozen (cell_lt h.c9)]; exact h.f9, by rw [hb.frozen (cell_lt h.c10)]; exact h.f10⟩

theorem Ctx.at {w w' : World} {C : Nat} {mv : Value} {id : ByteArray} (h : Ctx w C mv id) (hb : w'.heap[C]? = w.heap[C]?) : Ctx w' C mv id :=
  ⟨(World.cell?_of_block (w := w) hb).trans h.c9, (World.cell?_of_block (w := w) hb).trans h.c10, (World.frozen?_of_block (w := w) hb).trans h.f9, (World.frozen?_of_block (w := w) hb).trans h.f10⟩

theorem Ctx.set9 {w : World} {C : Nat} {mv : Value} {id : ByteArray} (h : Ctx w C mv id) (v : Value) : Ctx (w.setCell ⟨C, 9, none⟩ v) C v id :=
  ⟨World.cell?_setCell_same w _ v (by rw [h.c9]), by rw [World.cell?_setCell_other w _ _ v (by simp)]; exact h.c10, by rw [World.frozen?_setCell]; exact h.f9, by rw [World.frozen?_setCell]; exact h.f10⟩

theorem Ctx.set10 {w : World} {C : Nat} {mv : Value} {id : ByteArray} (h : Ctx w C mv id) (s : ByteArray) : Ctx (w.setCell ⟨C, 10, none⟩ (.string s)) C mv s :=
  ⟨by rw [World.cell?_setCell_other w _ _ _ (by simp)]; exact h.c9, World.cell?_setCell_same w _ _ (by rw [h.c10]), by rw [World.frozen?_setCell]; exact h.f9, by rw [World.frozen?_setCell]; exact h.f10⟩

theorem box_cells (w : World) (s : ByteArray) : (w.alloc (Obj.cells #[Value.string s, Value.nilIface, Value.bool true] 75)).cell? ⟨w.heap.size, 0, none⟩ = some (.string s) ∧
    (w.alloc (Obj.cells #[Value.string s, Value.nilIface, Value.bool true] 75)).cell? ⟨w.heap.size, 1, none⟩ = some .nilIface ∧ (w.alloc (Obj.cells #[Value.string s, Value.nilIface, Value.bool true] 75)).cell? ⟨w.heap.size, 2, none⟩ = some (.bool true) := by
  simp

def StoreRes (B C : Nat) (id key s : ByteArray) (f : ByteArray → Option Value) (n : Nat) (w : World) (e : Ending) (w' : World) : Prop :=
  e = .returned (.tuple #[]) ∧ Below B w w' ∧ ∃ mv', Ctx w' C mv' id ∧ Vals B w' C mv' (upd f key (strVal s)) (if (f key).isSome then n else n + 1)

theorem turned_below {B b : Nat} {w w' : World} (h : TurnedAt b w w') (hb : B ≤ b) : Below B w w' := by
  have ho := fun i (hi : i ≠ b) => h.other hi
  obtain ⟨es, clock, es', clock', hb', rfl⟩ := h
  exact ⟨rfl, rfl, rfl, by simp [ChangeMaps.setBlock], fun i hi => ho i (by omega)⟩

/-- The end of 'store'. -/
theorem store_end {B C M n : Nat} {id key s : ByteArray} {f : ByteArray → Option Value} {w W W' : World} (hW : Below B w W) (hc : Ctx W C (.map (some M)) id) (hMC : M ≠ C) (hBM : B ≤ M)
    (hm : MapIs W' M (upd f key (strVal s)) (if (f key).isSome then n else n + 1)) (ht : TurnedAt M W W') : StoreRes B C id key s f n w (.returned (.tuple #[])) W' :=
  ⟨rfl, hW.trans (turned_below ht hBM), .map (some M), hc.at (ht.other (Ne.symm hMC)), .inr ⟨M, rfl, hMC, hBM, hm⟩⟩

set_option maxRecDepth 50000 in
set_option maxHeartbeats 1000000 in
theorem store_any (B C : Nat) (mv : Value) (id key s : ByteArray) (f : ByteArray → Option Value) (n : Nat) (w : World) (hB : B ≤ C) (h : Ctx w C mv id) (hv : Vals B w C mv f n) :
    Calls Try.prog 13 #[.pointer (some ⟨C, 0, none⟩), .string key, strVal s] w (StoreRes B C id key s f n w) := by
  have hC : C < w.heap.size := cell_lt h.c9
  have HX : Hid (Ctx w C mv id) := h
  obtain ⟨c9, c10, f9, f10⟩ := h
  unfold strVal
  have hmm := @run_makeMap Try.prog
  have heq := eqlmap
  go_enter Try.func13, Try.ntmps13
  rcases hv with ⟨rfl, hnone, rfl⟩ | ⟨M, rfl, hMC, hBM, hM⟩
  · go_wp2_with fail
    have hbw : Below B w (((w.setCell ⟨C, 9, none⟩ (.map (some (w.heap.size + 1)))).alloc (Obj.cells #[Value.string s, Value.nilIface, Value.bool true] 75)).alloc (Obj.map #[] 0)) :=
      (((Below.refl _ _).setCell (p := ⟨C, 9, none⟩) hB _).alloc (by simp; omega) _).alloc (by simp; omega) _
    have hcx := ((HX.out.set9 (.map (some (w.heap.size + 1)))).later (below_alloc _ (Obj.cells #[Value.string s, Value.nilIface, Value.bool true] 75))).later (below_alloc _ (Obj.map #[] 0))
    have hM : MapIs (((w.setCell ⟨C, 9, none⟩ (.map (some (w.heap.size + 1)))).alloc (Obj.cells #[Value.string s, Value.nilIface, Value.bool true] 75)).alloc (Obj.map #[] 0)) (w.heap.size + 1) f 0 := by
      simpa using (MapIs.made ((w.setCell ⟨C, 9, none⟩ (.map (some (w.heap.size + 1)))).alloc (Obj.cells #[Value.string s, Value.nilIface, Value.bool true] 75))).congr (fun s => (hnone s).symm)
    obtain ⟨b0, b1, b2⟩ := box_cells (w.setCell ⟨C, 9, none⟩ (.map (some (w.heap.size + 1)))) s
    replace b0 := cell_later (below_alloc _ (Obj.map #[] 0)) b0
    replace b1 := cell_later (below_alloc _ (Obj.map #[] 0)) b1
    replace b2 := cell_later (below_alloc _ (Obj.map #[] 0)) b2
    rw [show (w.setCell ⟨C, 9, none⟩ (.map (some (w.heap.size + 1)))).heap.size = w.heap.size by simp] at b0 b1 b2
    generalize World.alloc _ (Obj.map #[] 0) = W at *
    clear c9 c10 f9 f10 hnone hmm heq
    generalize hX : w.heap.size = X at *
    have hMd : MapIs W.drew (X + 1) f 0 := hM.same rfl
    obtain ⟨W', hrun, hm', ht⟩ := hMd.store Try.underlying54 Try.underlying9 key (.agg #[.string s, .nilIface, .bool true])
    obtain ⟨c9, c10, f9, f10⟩ := (show Ctx W C _ _ from hcx)
    go_region
    go_end0
    exact store_end hbw.drew (hcx.later (Below.refl _ _).drew) (by omega) (by omega) hm' ht
  · go_wp2_with fail
    have hbw : Below B w (w.alloc (Obj.cells #[Value.string s, Value.nilIface, Value.bool true] 75)) := (Below.refl _ _).alloc (by omega) _
    have hcx := HX.out.later (below_alloc _ (Obj.cells #[Value.string s, Value.nilIface, Value.bool true] 75))
    obtain ⟨b0, b1, b2⟩ := box_cells w s
    have hMl := hM.lt
    replace hM := hM.same (w' := w.alloc (Obj.cells #[Value.string s, Value.nilIface, Value.bool true] 75)) ((below_alloc w (Obj.cells #[Value.string s, Value.nilIface, Value.bool true] 75)).block _ hMl)
    generalize World.alloc w _ = W at *
    clear c9 c10 f9 f10 hmm heq
    generalize hX : w.heap.size = X at *
    have hMd : MapIs W.drew M f n := hM.same rfl
    obtain ⟨W', hrun, hm', ht⟩ := hMd.store Try.underlying54 Try.underlying9 key (.agg #[.string s, .nilIface, .bool true])
    obtain ⟨c9, c10, f9, f10⟩ := (show Ctx W C _ _ from hcx)
    go_region
    go_end0
    exact store_end hbw.drew (hcx.later (Below.refl _ _).drew) hMC hBM hm' ht

set_option maxHeartbeats 1000000 in
theorem storeString_any (B C : Nat) (mv : Value) (id key s : ByteArray) (f : ByteArray → Option Value) (n : Nat) (w : World) (hB : B ≤ C) (h : Ctx w C mv id) (hv : Vals B w C mv f n) :
    Calls Try.prog 9 #[.pointer (some ⟨C, 0, none⟩), .string key, .string s] w (StoreRes B C id key s f n w) := by
  have hst := store_any B C mv id key s f n w hB h hv
  unfold strVal at hst
  go_enter Try.func9, Try.ntmps9
  go_wp2_with (go_at_call 13; refine hst.mono ?_; rintro e w' ⟨rfl, hb, hr⟩)
  go_end0
  exact ⟨rfl, hb, hr⟩

/-- GetString: what stands there, where it is a string. -/
def GetRes (w : World) (r : Option ByteArray) (e : Ending) (w' : World) : Prop := Below w.heap.size w w' ∧ ∀ s, r = some s → e = .returned (.tuple #[.string s, .bool true])

set_option maxHeartbeats 1000000 in
theorem getString_any (B C : Nat) (mv : Value) (id key s : ByteArray) (f : ByteArray → Option Value) (n : Nat) (w : World) (h : Ctx w C mv id) (hv : Vals B w C mv f n) (hs : f key = some (strVal s)) :
    Calls Try.prog 11 #[.pointer (some ⟨C, 0, none⟩), .string key] w (fun e w' => e = .returned (.tuple #[.string s, .bool true]) ∧ Below w.heap.size w w') := by
  obtain ⟨c9, c10, f9, f10⟩ := h
  rcases hv with ⟨rfl, hnone, rfl⟩ | ⟨M, rfl, hMC, hBM, hM⟩
  · rw [hnone key] at hs
    simp at hs
  · have hlk := hM.look Try.underlying54 Try.underlying9 (zero75 w) key false
    simp only [Bool.false_eq_true, if_false, hs, Option.getD_some, strVal] at hlk
    clear hs hM
    go_enter Try.func11, Try.ntmps11
    go_wp2
    go_ret2
    exact ⟨rfl, (Below.refl _ _).alloc (Nat.le_refl _) _⟩

set_option maxHeartbeats 1000000 in
theorem valuesLen_any (B C : Nat) (mv : Value) (id : ByteArray) (f : ByteArray → Option Value) (n : Nat) (w : World) (h : Ctx w C mv id) (hv : Vals B w C mv f n) :
    Calls Try.prog 12 #[.pointer (some ⟨C, 0, none⟩)] w (fun e w' => e = .returned (.int .i64 n) ∧ w' = w) := by
  obtain ⟨c9, c10, f9, f10⟩ := h
  have hlen : ∀ M, mv = .map (some M) → MapIs w M f n → ∀ ty, (Builtin.len_ #[54] ty #[.map (some M)]).run Try.prog w = .ok (.int .i64 n) w := fun M _ hM ty => hM.len Try.underlying54 ty
  rcases hv with ⟨rfl, hnone, rfl⟩ | ⟨M, rfl, hMC, hBM, hM⟩
  · clear hlen
    go_enter Try.func12, Try.ntmps12
    go_wp2
    go_ret
    exact ⟨rfl, rfl⟩
  · have hl := hlen M rfl hM
    clear hlen
    go_enter Try.func12, Try.ntmps12
    go_wp2
    go_ret
    exact ⟨rfl, rfl⟩

end Go.Proofs.Qxb6609179a
