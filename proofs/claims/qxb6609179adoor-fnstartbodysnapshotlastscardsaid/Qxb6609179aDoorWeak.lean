/-
  The header while it is edited.
-/
import Derived.Test.Qxb6609179aDoorLawNil
namespace Go.Proofs.Qxb6609179aDoor
open Go.RowKit Go.MapKept

/-- A slice that may be edited: its first cell, where there is one, lies from C up to D. -/
def Edits (C D M S : Nat) (w : World) (v : Value) : Prop := ∃ p l c, v = .slice p l c ∧ (0 < l → ∃ b x, p = some ⟨b, 0, none⟩ ∧ C ≤ b ∧ b < D ∧ b ≠ M ∧ w.cell? ⟨b, 0, none⟩ = some (.string x) ∧ w.frozen? ⟨b, 0, none⟩ = false ∧ x.size ≤ S)

/-- The header in block M while it is edited. -/
def Weak (C D M S : Nat) (w : World) : Prop := C ≤ M ∧ M < D ∧ ∃ f n, MapIs w M f n ∧ ∀ s v, f s = some v → Edits C D M S w v

theorem Weak.stand {C D M S : Nat} {w w' : World} (h : Weak C D M S w) (hs : Stand C D w w') : Weak C D M S w' := by
  obtain ⟨h1, h2, f, n, hm, hf⟩ := h
  refine ⟨h1, h2, f, n, hm.same (hs M h1 h2), fun s v hv => ?_⟩
  obtain ⟨p, l, c, e, hl⟩ := hf s v hv
  refine ⟨p, l, c, e, fun hp => ?_⟩
  obtain ⟨b, x, g1, g2, g3, g4, g5, g6, g7⟩ := hl hp
  exact ⟨b, x, g1, g2, g3, g4, (World.cell?_of_block (w := w) (w' := w') (a := ⟨b, 0, none⟩) (hs b g2 g3)).trans g5, (World.frozen?_of_block (w := w) (w' := w') (a := ⟨b, 0, none⟩) (hs b g2 g3)).trans g6, g7⟩

theorem HdrOwn.weak {C M n : Nat} {w : World} {F : ByteArray → Option (Option (List ByteArray))} (h : HdrOwn C w M F n) {S : Nat} (hS : ∀ s o, F s = some o → ∀ (i : Nat) x, (listO o)[i]? = some x → x.size ≤ S) : Weak C w.heap.size M S w := by
  obtain ⟨h1, h2, f, hm, hf⟩ := h
  refine ⟨h1, h2, f, n, hm, fun s v hv => ?_⟩
  rcases hf s with ⟨_, h3⟩ | ⟨o, v', g1, g2, g3, g4⟩
  · rw [h3] at hv; cases hv
  · obtain rfl : v' = v := Option.some.inj (g2.symm.trans hv)
    obtain ⟨p, cap, e, _, _, _, HC⟩ := g3.opened
    refine ⟨p, _, cap, e, fun hp => ?_⟩
    obtain ⟨x, hx⟩ : ∃ x, (listO o)[0]? = some x := ⟨_, List.getElem?_eq_getElem hp⟩
    obtain ⟨b, off, e2, hc, _⟩ := HC.out 0 x hx
    rw [e2] at e
    obtain ⟨b', e3, hb1, hb2, hro⟩ := g4 _ _ _ e
    injection e3 with e3 e4
    subst e3 e4
    rw [Nat.add_zero] at hc
    refine ⟨b, x, e2, hb1, hb2, ?_, hc, (hro 0 hp).2, hS s o g1 0 x hx⟩
    rintro rfl
    obtain ⟨es, clock, hbk, _⟩ := hm
    simp [World.cell?, hbk] at hc

/-- An edit. -/
theorem Weak.edit {C D M S S' b : Nat} {w : World} {x : ByteArray} (h : Weak C D M S w) (hM : b ≠ M) (hx : ∃ u, w.cell? ⟨b, 0, none⟩ = some u) (hxs : x.size ≤ S') (hSS : S ≤ S') : Weak C D M S' (w.setCell ⟨b, 0, none⟩ (.string x)) := by
  obtain ⟨h1, h2, f, n, hm, hf⟩ := h
  refine ⟨h1, h2, f, n, hm.same (Below.heap_setCell _ _ _ _ (show M ≠ b from fun e => hM e.symm)), fun s v hv => ?_⟩
  obtain ⟨p, l, c, e, hl⟩ := hf s v hv
  refine ⟨p, l, c, e, fun hp => ?_⟩
  obtain ⟨b', x', g1, g2, g3, g4, g5, g6, g7⟩ := hl hp
  by_cases hbb : b' = b
  · subst hbb
    obtain ⟨u, hu⟩ := hx
    exact ⟨b', x, g1, g2, g3, g4, World.cell?_setCell_same _ _ _ (by rw [hu]), by rw [World.frozen?_setCell]; exact g6, hxs⟩
  · exact ⟨b', x', g1, g2, g3, g4, by rw [World.cell?_setCell_other _ _ _ _ (fun e => hbb (by injection e with e; exact e.symm))]; exact g5, by rw [World.frozen?_setCell]; exact g6, by omega⟩

theorem Weak.more {C D M S S' : Nat} {w : World} (h : Weak C D M S w) (hSS : S ≤ S') : Weak C D M S' w := by
  obtain ⟨h1, h2, f, n, hm, hf⟩ := h
  refine ⟨h1, h2, f, n, hm, fun s v hv => ?_⟩
  obtain ⟨p, l, c, e, hl⟩ := hf s v hv
  refine ⟨p, l, c, e, fun hp => ?_⟩
  obtain ⟨b, x, g1, g2, g3, g4, g5, g6, g7⟩ := hl hp
  exact ⟨b, x, g1, g2, g3, g4, g5, g6, by omega⟩

/-- What lies outside of C up to D stands; nothing that the call found has turned. -/
structure Outside (C D : Nat) (w0 w w' : World) : Prop where
  below : Below w0.heap.size w0 w'
  size : w.heap.size ≤ w'.heap.size
  block : ∀ i, i < w.heap.size → i < C ∨ D ≤ i → w'.heap[i]? = w.heap[i]?

theorem Outside.low {C D hi lo : Nat} {w0 w w' : World} (h : Outside C D w0 w w') (hh : hi ≤ C) (hs : hi ≤ w.heap.size) : Stand lo hi w w' := fun i _ hi' => h.block i (by omega) (.inl (by omega))
theorem Outside.high {C D hi lo : Nat} {w0 w w' : World} (h : Outside C D w0 w w') (hl : D ≤ lo) (hs : hi ≤ w.heap.size) : Stand lo hi w w' := fun i hi1 hi' => h.block i (by omega) (.inr (by omega))

end Go.Proofs.Qxb6609179aDoor
