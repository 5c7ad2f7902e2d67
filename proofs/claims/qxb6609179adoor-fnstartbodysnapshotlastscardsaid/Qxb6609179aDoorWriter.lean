/-
  The held writer.
-/
import Derived.Test.Qxb6609179aDoorClone
import Derived.Laws.LoneSync
namespace Go.Proofs.Qxb6609179aDoor
open Go.RowKit Go.MapKept

/-- A held writer: its run, header, sent header, status. -/
structure Held (w : World) (X R : Nat) (hv sv : Value) (st : Int) : Prop where
  c0 : w.cell? ⟨X, 0, none⟩ = some (.pointer (some ⟨R, 0, none⟩))
  c1 : w.cell? ⟨X, 1, none⟩ = some hv
  c2 : w.cell? ⟨X, 2, none⟩ = some sv
  c3 : w.cell? ⟨X, 3, none⟩ = some (.int .i64 st)
  f2 : w.frozen? ⟨X, 2, none⟩ = false
  f3 : w.frozen? ⟨X, 3, none⟩ = false
  run : w.cell? ⟨R, 30, none⟩ = some (.int .i32 0)

theorem Held.at {w w' : World} {X R : Nat} {hv sv : Value} {st : Int} (h : Held w X R hv sv st) (hX : w'.heap[X]? = w.heap[X]?) (hR : w'.heap[R]? = w.heap[R]?) : Held w' X R hv sv st :=
  ⟨(World.cell?_of_block (w := w) (a := ⟨X, 0, none⟩) hX).trans h.c0, (World.cell?_of_block (w := w) (a := ⟨X, 1, none⟩) hX).trans h.c1, (World.cell?_of_block (w := w) (a := ⟨X, 2, none⟩) hX).trans h.c2, (World.cell?_of_block (w := w) (a := ⟨X, 3, none⟩) hX).trans h.c3,
   (World.frozen?_of_block (w := w) (a := ⟨X, 2, none⟩) hX).trans h.f2, (World.frozen?_of_block (w := w) (a := ⟨X, 3, none⟩) hX).trans h.f3, (World.cell?_of_block (w := w) (a := ⟨R, 30, none⟩) hR).trans h.run⟩

set_option maxHeartbeats 1000000 in
theorem atomStore (R : Nat) (y : Int) (u : Value) (w : World) (hc : w.cell? ⟨R, 30, none⟩ = some u) (hz : w.frozen? ⟨R, 30, none⟩ = false) :
    Calls Tryd.prog 16 #[.pointer (some ⟨R, 30, none⟩), .int .i32 y] w (fun e w' => e = .returned (.tuple #[]) ∧ w' = w.setCell ⟨R, 30, none⟩ (.int .i32 y)) := by
  have hst := run_call_store (P := Tryd.prog) Tryd.func19 (by kernel_rfl) (by kernel_rfl) (by kernel_rfl) (by kernel_rfl) (k := .i32) (y := y) hc hz
  go_enter Tryd.func16, Tryd.ntmps16
  go_wp2
  go_end0
  exact ⟨rfl, rfl⟩

set_option maxHeartbeats 1000000 in
theorem atomLoad (R : Nat) (x : Int) (w : World) (hc : w.cell? ⟨R, 30, none⟩ = some (.int .i32 x)) :
    Calls Tryd.prog 22 #[.pointer (some ⟨R, 30, none⟩)] w (fun e w' => e = .returned (.int .i32 x) ∧ w' = w) := by
  have hl := run_call_load (P := Tryd.prog) Tryd.func24 (by kernel_rfl) (by kernel_rfl) (by kernel_rfl) .i32 (by kernel_rfl) (w := w) (a := ⟨R, 30, none⟩) (x := x) hc
  go_enter Tryd.func22, Tryd.ntmps22
  go_wp2
  go_ret
  exact ⟨rfl, rfl⟩

set_option maxHeartbeats 1000000 in
theorem abandoned_any (R : Nat) (w : World) (hc : w.cell? ⟨R, 30, none⟩ = some (.int .i32 0)) :
    Calls Tryd.prog 20 #[.pointer (some ⟨R, 0, none⟩)] w (fun e w' => e = .returned (.bool false) ∧ w' = w) := by
  have hl := atomLoad R 0 w hc
  go_enter Tryd.func20, Tryd.ntmps20
  go_wp2_with (go_at_call 22; refine hl.mono ?_; rintro e w' ⟨rfl, rfl⟩)
  go_ret
  exact ⟨rfl, rfl⟩

set_option maxRecDepth 100000 in
set_option maxHeartbeats 2000000 in
theorem new_any (r : Option Nat) (w : World) : Calls Tryd.prog 11 #[.int .i32 0, .int .i64 0, .map r, .map none] w (fun e w' => e = .returned (.pointer (some ⟨w.heap.size + 1, 0, none⟩)) ∧ Below w.heap.size w w' ∧ w'.heap.size = w.heap.size + 2 ∧ Held w' (w.heap.size + 1) w.heap.size (.map r) (.map none) 0) := by
  go_enter Tryd.func11, Tryd.ntmps11
  go_wp2_with (go_at_call 16; refine (atomStore w.heap.size 0 (.int .i32 0) _ ?hc ?hz).mono ?_; (case hc => simp [go_sem]); (case hz => simp [go_sem]); rintro e w' ⟨rfl, hw'⟩)
  go_ret
  exact ⟨rfl, ((Below.refl _ _).alloc (Nat.le_refl _) _).alloc (by simp) _, by simp, by constructor <;> simp [go_sem]⟩

/-- What is sent. -/
def SentIs (w0 w' : World) (hv sv : Value) (F : ByteArray → Option (Option (List ByteArray))) : Prop :=
  (hv = .map none ∧ sv = .map none) ∨ ∃ M M2 n2, hv = .map (some M) ∧ sv = .map (some M2) ∧ HdrIn w0.heap.size w'.heap.size w' M2 F n2

/-- The header that is there. -/
def HeadIs (w : World) (hv : Value) (F : ByteArray → Option (Option (List ByteArray))) : Prop :=
  hv = .map none ∨ ∃ M n, hv = .map (some M) ∧ HdrIs w M F n ∧ n ≤ 65536

def StartRes (ret : Value) (X R : Nat) (hv : Value) (F : ByteArray → Option (Option (List ByteArray))) (w : World) (e : Ending) (w' : World) : Prop :=
  e = .returned ret ∧ Below X w w' ∧ ∃ sv', Held w' X R hv sv' 200 ∧ SentIs w w' hv sv' F

theorem Held.set2 {w : World} {X R : Nat} {hv sv : Value} {st : Int} (h : Held w X R hv sv st) (hne : R ≠ X) (st' : Int) (sv' : Value) : Held ((w.setCell ⟨X, 3, none⟩ (.int .i64 st')).setCell ⟨X, 2, none⟩ sv') X R hv sv' st' := by
  have h1 : ∀ k, k ≠ 3 → (w.setCell ⟨X, 3, none⟩ (.int .i64 st')).cell? ⟨X, k, none⟩ = w.cell? ⟨X, k, none⟩ := fun k hk => World.cell?_setCell_other w _ _ _ (fun e => hk (by injection e with _ e; exact e.symm))
  have h2 : ∀ k, k ≠ 2 → ((w.setCell ⟨X, 3, none⟩ (.int .i64 st')).setCell ⟨X, 2, none⟩ sv').cell? ⟨X, k, none⟩ = (w.setCell ⟨X, 3, none⟩ (.int .i64 st')).cell? ⟨X, k, none⟩ := fun k hk => World.cell?_setCell_other _ _ _ _ (fun e => hk (by injection e with _ e; exact e.symm))
  refine ⟨by rw [h2 0 (by omega), h1 0 (by omega)]; exact h.c0, by rw [h2 1 (by omega), h1 1 (by omega)]; exact h.c1, World.cell?_setCell_same _ _ _ (by rw [h1 2 (by omega), h.c2]), by rw [h2 3 (by omega)]; exact World.cell?_setCell_same w _ _ (by rw [h.c3]), by rw [World.frozen?_setCell, World.frozen?_setCell]; exact h.f2, by rw [World.frozen?_setCell, World.frozen?_setCell]; exact h.f3, ?_⟩
  rw [World.cell?_setCell_other _ _ _ _ (fun e => hne (by injection e with e; exact e.symm)), World.cell?_setCell_other _ _ _ _ (fun e => hne (by injection e with e; exact e.symm))]
  exact h.run

set_option maxHeartbeats 2000000 in
theorem writeHeader_first (X R : Nat) (hv sv : Value) (F : ByteArray → Option (Option (List ByteArray))) (w : World) (h : Held w X R hv sv 0) (hne : R < X) (hh : HeadIs w hv F) (hL : ∀ s o, F s = some o → lenO o ≤ 65536) :
    Calls Tryd.prog 21 #[.pointer (some ⟨X, 0, none⟩), .int .i64 200] w (StartRes (.tuple #[]) X R hv F w) := by
  have hX : X < w.heap.size := cell_lt h.c0
  have HH : Hid (Held w X R hv sv 0) := h
  obtain ⟨c0, c1, c2, c3, f2, f3, cr⟩ := h
  rcases hh with rfl | ⟨M, n, rfl, hM, hn⟩
  · have hcl := clone_nil w
    go_enter Tryd.func21, Tryd.ntmps21
    go_wp2_with (go_at_call 23; refine hcl.mono ?_; rintro e w' ⟨rfl, rfl⟩)
    go_end0
    exact ⟨rfl, ((Below.refl _ _).setCell (p := ⟨X, 3, none⟩) (Nat.le_refl _) _).setCell (p := ⟨X, 2, none⟩) (Nat.le_refl _) _, .map none, HH.out.set2 (by omega) 200 (.map none), .inl ⟨rfl, rfl⟩⟩
  · have hcl := clone_any M n F w hM hn hL
    go_enter Tryd.func21, Tryd.ntmps21
    go_wp2_with (go_at_call 23; refine hcl.mono ?_; rintro e w1 ⟨M2, n2, rfl, hb1, hin⟩; have HH1 : Hid (Held w1 X R (.map (some M)) sv 0) := HH.out.at (hb1.block _ (cell_lt HH.out.c0)) (hb1.block _ (cell_lt HH.out.run)); obtain ⟨e0, e1, e2, e3, g2, g3, er⟩ := HH1.out)
    go_end0
    have hst : Stand w.heap.size w1.heap.size w1 ((w1.setCell ⟨X, 3, none⟩ (.int .i64 200)).setCell ⟨X, 2, none⟩ (.map (some M2))) := fun i hi _ => by
      rw [Below.heap_setCell _ _ _ _ (show i ≠ X by omega), Below.heap_setCell _ _ _ _ (show i ≠ X by omega)]
    refine ⟨rfl, ((hb1.mono (Nat.le_of_lt hX)).setCell (p := ⟨X, 3, none⟩) (Nat.le_refl _) _).setCell (p := ⟨X, 2, none⟩) (Nat.le_refl _) _, .map (some M2), HH1.out.set2 (by omega) 200 (.map (some M2)), .inr ⟨M, M2, n2, rfl, rfl, ?_⟩⟩
    have h5 := hin.stand hst
    simpa [World.setCell] using h5

set_option maxHeartbeats 2000000 in
theorem writeHeader_again (X R : Nat) (hv sv : Value) (w : World) (h : Held w X R hv sv 200) :
    Calls Tryd.prog 21 #[.pointer (some ⟨X, 0, none⟩), .int .i64 200] w (fun e w' => e = .returned (.tuple #[]) ∧ w = w') := by
  obtain ⟨c0, c1, c2, c3, f2, f3, cr⟩ := h
  go_enter Tryd.func21, Tryd.ntmps21
  go_wp2
  all_goals (first | go_end0 | refine bodyPost_ret (results_none rfl _ _ _) rfl ?_)
  exact ⟨rfl, rfl⟩

set_option maxHeartbeats 2000000 in
theorem startBody_first (X R : Nat) (hv sv : Value) (F : ByteArray → Option (Option (List ByteArray))) (w : World) (h : Held w X R hv sv 0) (hne : R < X) (hh : HeadIs w hv F) (hL : ∀ s o, F s = some o → lenO o ≤ 65536) :
    Calls Tryd.prog 12 #[.pointer (some ⟨X, 0, none⟩)] w (StartRes .nilIface X R hv F w) := by
  have ha := abandoned_any R w h.run
  have hw := writeHeader_first X R hv sv F w h hne hh hL
  obtain ⟨c0, c1, c2, c3, f2, f3, cr⟩ := h
  have h17 : Calls Tryd.prog 17 #[.pointer (some ⟨X, 0, none⟩)] w (StartRes .nilIface X R hv F w) := by
    go_enter Tryd.func17, Tryd.ntmps17
    go_wp2_with (first
      | (go_at_call 20; refine ha.mono ?_; rintro e w' ⟨rfl, rfl⟩)
      | (go_at_call 21; refine hw.mono ?_; rintro e w1 ⟨rfl, hb1, hr1⟩))
    go_ret
    exact ⟨rfl, hb1, hr1⟩
  go_enter Tryd.func12, Tryd.ntmps12
  go_wp2_with (go_at_call 17; refine h17.mono ?_; rintro e w1 ⟨rfl, hb1, hr1⟩)
  go_ret
  exact ⟨rfl, hb1, hr1⟩

set_option maxHeartbeats 2000000 in
theorem startBody_again (X R : Nat) (hv sv : Value) (w : World) (h : Held w X R hv sv 200) :
    Calls Tryd.prog 12 #[.pointer (some ⟨X, 0, none⟩)] w (fun e w' => e = .returned .nilIface ∧ w = w') := by
  have ha := abandoned_any R w h.run
  have hw := writeHeader_again X R hv sv w h
  obtain ⟨c0, c1, c2, c3, f2, f3, cr⟩ := h
  have h17 : Calls Tryd.prog 17 #[.pointer (some ⟨X, 0, none⟩)] w (fun e w' => e = .returned .nilIface ∧ w = w') := by
    go_enter Tryd.func17, Tryd.ntmps17
    go_wp2_with (first
      | (go_at_call 20; refine ha.mono ?_; rintro e w' ⟨rfl, rfl⟩)
      | (go_at_call 21; refine hw.mono ?_; rintro e w1 ⟨rfl, rfl⟩))
    go_ret
    exact ⟨rfl, rfl⟩
  go_enter Tryd.func12, Tryd.ntmps12
  go_wp2_with (go_at_call 17; refine h17.mono ?_; rintro e w1 ⟨rfl, rfl⟩)
  go_ret
  exact ⟨rfl, rfl⟩

set_option maxHeartbeats 1000000 in
theorem heldStatus_any (X R : Nat) (hv sv : Value) (st : Int) (w : World) (h : Held w X R hv sv st) : Calls Tryd.prog 13 #[.pointer (some ⟨X, 0, none⟩)] w (fun e w' => e = .returned (.int .i64 st) ∧ w = w') := by
  obtain ⟨c0, c1, c2, c3, f2, f3, cr⟩ := h
  go_enter Tryd.func13, Tryd.ntmps13
  go_wp2
  go_ret
  exact ⟨rfl, rfl⟩

set_option maxHeartbeats 1000000 in
theorem heldSent_any (X R : Nat) (hv sv : Value) (st : Int) (w : World) (h : Held w X R hv sv st) (hm : ∃ r, sv = .map r) : Calls Tryd.prog 15 #[.pointer (some ⟨X, 0, none⟩)] w (fun e w' => e = .returned sv ∧ w = w') := by
  obtain ⟨r, rfl⟩ := hm
  obtain ⟨c0, c1, c2, c3, f2, f3, cr⟩ := h
  go_enter Tryd.func15, Tryd.ntmps15
  go_wp2
  go_ret
  exact ⟨rfl, rfl⟩

end Go.Proofs.Qxb6609179aDoor
