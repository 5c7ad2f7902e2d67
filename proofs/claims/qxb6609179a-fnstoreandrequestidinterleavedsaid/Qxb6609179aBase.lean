/-
  The words for slices of strings and of bools.
-/
import Derived.Test.Qxb6609179aMaps
import Derived.WalkLawsBesides
import Derived.Deep.QuietTactic
import Derived.BigQuiet
namespace Go.Proofs.Qxb6609179a
open Go.RowKit

theorem ret_bool {a b : Bool} (h : a = b) : Ending.returned (.bool a) = .returned (.bool b) := by rw [h]

theorem add_plain (b o i : Nat) : (⟨b, o, none⟩ : Addr).add i = ⟨b, o + i, none⟩ := by unfold Addr.add; split <;> simp_all

/-- The slice value v, of elements of sz cells, holds the rows l in the world w. -/
def Sl (sz : Nat) (w : World) (v : Value) (l : List (List Value)) : Prop :=
  ∃ p cap, v = .slice p l.length cap ∧ l.length ≤ cap ∧ cap ≤ maxLen ∧ (p = none → l = [] ∧ cap = 0) ∧
    (0 < l.length → ∃ b off, p = some ⟨b, off, none⟩ ∧ ∀ i r, l[i]? = some r → ∀ j x, r[j]? = some x → w.cell? ⟨b, off + i * sz + j, none⟩ = some x)

theorem Sl.later {sz : Nat} {w w' : World} {v : Value} {l : List (List Value)} (h : Sl sz w v l) (hb : Below w.heap.size w w') : Sl sz w' v l := by
  obtain ⟨p, cap, hv, h1, h2, h3, h4⟩ := h
  refine ⟨p, cap, hv, h1, h2, h3, fun hp => ?_⟩
  obtain ⟨b, off, e, hc⟩ := h4 hp
  exact ⟨b, off, e, fun i r hr j x hx => cell_later hb (hc i r hr j x hx)⟩

/-- What Sl says of one row, its slice value opened. -/
theorem Sl.opened {sz : Nat} {w : World} {v : Value} {l : List (List Value)} (h : Sl sz w v l) : ∃ p cap, v = .slice p l.length cap ∧ l.length ≤ cap ∧ cap ≤ maxLen ∧ (p = none → l = [] ∧ cap = 0) ∧
    Hid (∀ i r, l[i]? = some r → ∃ b off, p = some ⟨b, off, none⟩ ∧ ∀ j x, r[j]? = some x → w.cell? ⟨b, off + i * sz + j, none⟩ = some x) := by
  obtain ⟨p, cap, hv, h1, h2, h3, h4⟩ := h
  refine ⟨p, cap, hv, h1, h2, h3, fun i r hr => ?_⟩
  obtain ⟨b, off, e, hc⟩ := h4 (Nat.lt_of_le_of_lt (Nat.zero_le i) (List.getElem?_eq_some_iff.mp hr).1)
  exact ⟨b, off, e, hc i r hr⟩

/-- Strings. -/
def FL (w : World) (v : Value) (l : List ByteArray) : Prop := Sl 1 w v (l.map fun x => [.string x]) ∧ ∀ x ∈ l, x.size ≤ maxLen

/-- Bools. -/
def BL (w : World) (v : Value) (l : List Bool) : Prop := Sl 1 w v (l.map fun x => [.bool x])

theorem FL.later {w w' : World} {v : Value} {l : List ByteArray} (h : FL w v l) (hb : Below w.heap.size w w') : FL w' v l := ⟨h.1.later hb, h.2⟩
theorem BL.later {w w' : World} {v : Value} {l : List Bool} (h : BL w v l) (hb : Below w.heap.size w w') : BL w' v l := Sl.later h hb

theorem FL.opened {w : World} {v : Value} {l : List ByteArray} (h : FL w v l) : ∃ p cap, v = .slice p l.length cap ∧ l.length ≤ cap ∧ cap ≤ maxLen ∧ (p = none → l = [] ∧ cap = 0) ∧
    Hid (∀ i x, l[i]? = some x → ∃ b off, p = some ⟨b, off, none⟩ ∧ w.cell? ⟨b, off + i, none⟩ = some (.string x) ∧ x.size ≤ maxLen) := by
  obtain ⟨⟨p, cap, hv, h1, h2, h3, h4⟩, hs⟩ : (∃ p cap, v = .slice p _ cap ∧ _) ∧ _ := ⟨h.1.opened, h.2⟩
  simp only [List.length_map] at hv h1
  refine ⟨p, cap, hv, h1, h2, fun e => ⟨by simpa using (h3 e).1, (h3 e).2⟩, fun i x hx => ?_⟩
  obtain ⟨b, off, e, hc⟩ := h4.out i _ (by rw [List.getElem?_map, hx]; rfl)
  have h0 := hc 0 _ rfl
  rw [Nat.mul_one, Nat.add_zero] at h0
  exact ⟨b, off, e, h0, hs x (List.mem_of_getElem? hx)⟩

theorem BL.opened {w : World} {v : Value} {l : List Bool} (h : BL w v l) : ∃ p cap, v = .slice p l.length cap ∧ l.length ≤ cap ∧ cap ≤ maxLen ∧ (p = none → l = [] ∧ cap = 0) ∧
    Hid (∀ i x, l[i]? = some x → ∃ b off, p = some ⟨b, off, none⟩ ∧ w.cell? ⟨b, off + i, none⟩ = some (.bool x)) := by
  obtain ⟨p, cap, hv, h1, h2, h3, h4⟩ := Sl.opened h
  simp only [List.length_map] at hv h1
  refine ⟨p, cap, hv, h1, h2, fun e => ⟨by simpa using (h3 e).1, (h3 e).2⟩, fun i x hx => ?_⟩
  obtain ⟨b, off, e, hc⟩ := h4.out i _ (by rw [List.getElem?_map, hx]; rfl)
  have h0 := hc 0 _ rfl
  rw [Nat.mul_one, Nat.add_zero] at h0
  exact ⟨b, off, e, h0⟩

theorem cell_lt {w : World} {a : Addr} {v : Value} (h : w.cell? a = some v) : a.block < w.heap.size := by
  rcases Nat.lt_or_ge a.block w.heap.size with h' | h'
  · exact h'
  · simp [World.cell?, Array.getElem?_eq_none h'] at h

end Go.Proofs.Qxb6609179a
