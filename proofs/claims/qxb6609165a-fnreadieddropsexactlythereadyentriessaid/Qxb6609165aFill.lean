/-
  A row in the making: 'make', then one element after the other.
-/
import Derived.Test.Qxb6609165aSorted
namespace Go.Proofs.Qxb6609165a
open Go.RowKit

/-- Block g, a row of n elements of sz cells, its first rows written. -/
structure Filling (sz g n : Nat) (rows : List (List Value)) (wr : World) : Prop where
  there : ∀ m, m < n * sz → (wr.cell? ⟨g, m, none⟩).isSome = true ∧ wr.frozen? ⟨g, m, none⟩ = false
  done : ∀ (k : Nat) r, rows[k]? = some r → ∀ (m : Nat) x, r[m]? = some x → wr.cell? ⟨g, k * sz + m, none⟩ = some x
  le : rows.length ≤ n
  wide : ∀ r ∈ rows, r.length = sz

theorem some_lt {w : World} {a : Addr} (h : (w.cell? a).isSome = true) : a.block < w.heap.size := by
  obtain ⟨v, hv⟩ := Option.isSome_iff_exists.mp h
  exact cell_lt hv

theorem Filling.later {sz g n : Nat} {rows : List (List Value)} {wr w' : World} (h : Filling sz g n rows wr) (hb : Below wr.heap.size wr w') : Filling sz g n rows w' :=
  ⟨fun m hm => by
    obtain ⟨h1, h2⟩ := h.there m hm
    have hl := some_lt h1
    exact ⟨by rw [hb.cell hl]; exact h1, by rw [hb.frozen hl]; exact h2⟩, fun k r hr m x hx => cell_later hb (h.done k r hr m x hx), h.le, h.wide⟩

theorem Filling.start {sz n : Nat} {wr : World} {cs : Array Value} {e : TypeId} (hc : cs.size = n * sz) : Filling sz wr.heap.size n [] (wr.alloc (.cells cs e (0, 0))) :=
  ⟨fun m hm => by
    have hh : (wr.alloc (.cells cs e (0, 0))).heap[wr.heap.size]? = some (.cells cs e (0, 0)) := heap_new _ _
    constructor
    · simp only [World.cell?, hh]
      rw [Array.getElem?_eq_getElem (by omega)]
      rfl
    · simp only [World.frozen?, hh]
      simp, fun k r hr => by simp at hr, Nat.zero_le _, fun r hr => by simp at hr⟩

theorem Filling.full {sz g n : Nat} {rows : List (List Value)} {wr : World} (h : Filling sz g n rows wr) (hl : rows.length = n) (hm : n ≤ maxLen) : Sl sz wr (.slice (some ⟨g, 0, none⟩) n n) rows :=
  ⟨some ⟨g, 0, none⟩, n, by rw [hl], by omega, hm, fun h => by simp at h, fun _ => ⟨g, 0, rfl, fun i r hr j x hx => by rw [Nat.zero_add]; exact h.done i r hr j x hx⟩⟩

/-- One element more. -/
theorem Filling.next {sz g n : Nat} {rows : List (List Value)} {wr w' : World} {r : List Value} (h : Filling sz g n rows wr) (hlt : rows.length < n) (hr : r.length = sz)
    (hw : w' = wr.setCells g (rows.length * sz) r) : Filling sz g n (rows ++ [r]) w' := by
  have hin : rows.length * sz + sz ≤ n * sz := by rw [← Nat.succ_mul]; exact Nat.mul_le_mul_right _ hlt
  have hsome : ∀ j, j < r.length → (wr.cell? ⟨g, rows.length * sz + j, none⟩).isSome = true := fun j hj => (h.there _ (by omega)).1
  refine ⟨fun m hm => ?_, fun k r' hk m x hx => ?_, by simp; omega, fun r' hr' => ?_⟩
  · obtain ⟨h1, h2⟩ := h.there m hm
    constructor
    · by_cases hm2 : rows.length * sz ≤ m ∧ m < rows.length * sz + r.length
      · have := World.cell?_setCells_in g r (rows.length * sz) wr hsome (m - rows.length * sz) (by omega)
        rw [show rows.length * sz + (m - rows.length * sz) = m by omega] at this
        rw [hw, this]
        rfl
      · rw [hw, World.cell?_setCells_out g r _ _ _ (fun _ _ => by simp only []; omega)]
        exact h1
    · rw [hw, World.frozen?_setCells]
      exact h2
  · by_cases hkl : k < rows.length
    · rw [List.getElem?_append_left hkl] at hk
      have hc := h.done k r' hk m x hx
      have hms : k * sz + m < rows.length * sz := by
        have h1 := (List.getElem?_eq_some_iff.mp hx).1
        rw [h.wide r' (List.mem_of_getElem? hk)] at h1
        have h2 : (k + 1) * sz ≤ rows.length * sz := Nat.mul_le_mul_right _ hkl
        rw [Nat.succ_mul] at h2
        omega
      rw [hw, World.cell?_setCells_out g r _ _ _ (fun _ _ => Or.inl hms)]
      exact hc
    · rw [List.getElem?_append_right (by omega)] at hk
      have hk0 : k - rows.length = 0 := by
        have := (List.getElem?_eq_some_iff.mp hk).1
        simp at this
        omega
      rw [hk0] at hk
      obtain rfl : r = r' := by simpa using hk
      have hkk : k = rows.length := by omega
      obtain ⟨hml, hmx⟩ := List.getElem?_eq_some_iff.mp hx
      have := World.cell?_setCells_in g r (rows.length * sz) wr hsome m hml
      rw [hw, hkk, this, hmx]
  · rcases List.mem_append.mp hr' with h1 | h1
    · exact h.wide r' h1
    · obtain rfl : r' = r := by simpa using h1
      exact hr

end Go.Proofs.Qxb6609165a
