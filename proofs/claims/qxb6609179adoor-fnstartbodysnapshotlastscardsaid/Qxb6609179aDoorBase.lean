/-
  The words for slices of strings, and of slices of them.
-/
import Derived.Test.Qxb6609179aDoorRng
import Derived.WalkLawsBesides
import Derived.Deep.QuietTactic
import Derived.BigQuiet
namespace Go.Proofs.Qxb6609179aDoor
open Go.RowKit

theorem ret_bool {a b : Bool} (h : a = b) : Ending.returned (.bool a) = .returned (.bool b) := by rw [h]

theorem add_plain (b o i : Nat) : (⟨b, o, none⟩ : Addr).add i = ⟨b, o + i, none⟩ := by unfold Addr.add; split <;> simp_all

/-- The slice value v, of elements of sz cells, holds the rows l in the world w. -/
def Sl (sz : Nat) (w : World) (v : Value) (l : List (List Value)) : Prop :=
  ∃ p cap, v = .slice p l.length cap ∧ l.length ≤ cap ∧ cap ≤ maxLen ∧ (p = none → l = [] ∧ cap = 0) ∧
    (0 < l.length → ∃ b off, p = some ⟨b, off, none⟩ ∧ ∀ i r, l[i]? = some r → ∀ j x, r[j]? = some x → w.cell? ⟨b, off + i * sz + j, none⟩ = some x)

theorem Sl.later {sz : Nat} {w w' : World} {v : Value} {l : List (List Value)} (h : Sl sz w v l) (hb : Below w.heap.size w w') : Sl sz w' v l := by
  obtain ⟨p, cap, hv, h1, h2, h3, h4⟩ := h
  refine ⟨p, cap, hv, h1, h2, h3, fun hp => ?_⟩
  obtain ⟨b, off, e, hc⟩ := h4 hp
  exact ⟨b, off, e, fun i r hr j x hx => cell_later hb (hc i r hr j x hx)⟩

/-- What Sl says of one row, its slice value opened. -/
theorem Sl.opened {sz : Nat} {w : World} {v : Value} {l : List (List Value)} (h : Sl sz w v l) : ∃ p cap, v = .slice p l.length cap ∧ l.length ≤ cap ∧ cap ≤ maxLen ∧ (p = none → l = [] ∧ cap = 0) ∧
    Hid (∀ i r, l[i]? = some r → ∃ b off, p = some ⟨b, off, none⟩ ∧ ∀ j x, r[j]? = some x → w.cell? ⟨b, off + i * sz + j, none⟩ = some x) := by
  obtain ⟨p, cap, hv, h1, h2, h3, h4⟩ := h
  refine ⟨p, cap, hv, h1, h2, h3, fun i r hr => ?_⟩
  obtain ⟨b, off, e, hc⟩ := h4 (Nat.lt_of_le_of_lt (Nat.zero_le i) (List.getElem?_eq_some_iff.mp hr).1)
  exact ⟨b, off, e, hc i r hr⟩

/-- Strings. -/
def FL (w : World) (v : Value) (l : List ByteArray) : Prop := Sl 1 w v (l.map fun x => [.string x]) ∧ ∀ x ∈ l, x.size ≤ maxLen

theorem FL.later {w w' : World} {v : Value} {l : List ByteArray} (h : FL w v l) (hb : Below w.heap.size w w') : FL w' v l := ⟨h.1.later hb, h.2⟩
theorem FL.opened {w : World} {v : Value} {l : List ByteArray} (h : FL w v l) : ∃ p cap, v = .slice p l.length cap ∧ l.length ≤ cap ∧ cap ≤ maxLen ∧ (p = none → l = [] ∧ cap = 0) ∧
    Hid (∀ i x, l[i]? = some x → ∃ b off, p = some ⟨b, off, none⟩ ∧ w.cell? ⟨b, off + i, none⟩ = some (.string x) ∧ x.size ≤ maxLen) := by
  obtain ⟨⟨p, cap, hv, h1, h2, h3, h4⟩, hs⟩ : (∃ p cap, v = .slice p _ cap ∧ _) ∧ _ := ⟨h.1.opened, h.2⟩
  simp only [List.length_map] at hv h1
  refine ⟨p, cap, hv, h1, h2, fun e => ⟨by simpa using (h3 e).1, (h3 e).2⟩, fun i x hx => ?_⟩
  obtain ⟨b, off, e, hc⟩ := h4.out i _ (by rw [List.getElem?_map, hx]; rfl)
  have h0 := hc 0 _ rfl
  rw [Nat.mul_one, Nat.add_zero] at h0
  exact ⟨b, off, e, h0, hs x (List.mem_of_getElem? hx)⟩

theorem cell_lt {w : World} {a : Addr} {v : Value} (h : w.cell? a = some v) : a.block < w.heap.size := by
  rcases Nat.lt_or_ge a.block w.heap.size with h' | h'
  · exact h'
  · simp [World.cell?, Array.getElem?_eq_none h'] at h

/-- A slice of strings, nil or not, and what it holds. -/
def SV (w : World) (v : Value) : Option (List ByteArray) → Prop
  | none => v = .slice none 0 0
  | some l => (∃ a c, v = .slice (some a) l.length c) ∧ FL w v l

/-- Its length. -/
def lenO : Option (List ByteArray) → Nat
  | none => 0
  | some l => l.length

theorem SV.later {w w' : World} {v : Value} {o : Option (List ByteArray)} (h : SV w v o) (hb : Below w.heap.size w w') : SV w' v o := by
  cases o with
  | none => exact h
  | some l => exact ⟨h.1, h.2.later hb⟩

theorem SV.len {w : World} {v : Value} {o : Option (List ByteArray)} (h : SV w v o) : sliceLen v = lenO o := by
  cases o with
  | none => rw [show v = .slice none 0 0 from h]; rfl
  | some l =>
    obtain ⟨⟨a, c, rfl⟩, _⟩ := h
    rfl

/-- What it holds, as a list. -/
def listO : Option (List ByteArray) → List ByteArray
  | none => []
  | some l => l

theorem SV.opened {w : World} {v : Value} {o : Option (List ByteArray)} (h : SV w v o) : ∃ p cap, v = .slice p (listO o).length cap ∧ (listO o).length ≤ cap ∧ cap ≤ maxLen ∧ (p = none ↔ o = none) ∧
    Hid (∀ i x, (listO o)[i]? = some x → ∃ b off, p = some ⟨b, off, none⟩ ∧ w.cell? ⟨b, off + i, none⟩ = some (.string x) ∧ x.size ≤ maxLen) := by
  cases o with
  | none =>
    rw [show v = .slice none 0 0 from h]
    exact ⟨none, 0, rfl, by simp [listO], by unfold maxLen; omega, by simp, fun i x hx => by simp [listO] at hx⟩
  | some l =>
    obtain ⟨⟨a, c, rfl⟩, hf⟩ := h
    obtain ⟨p, cap, e, h1, h2, h3, h4⟩ := hf.opened
    injection e with e1 e2 e3
    subst e1 e3
    exact ⟨some a, c, rfl, h1, h2, by simp, h4⟩

/-- Slices of slices of strings. -/
def NL (w : World) (v : Value) (l : List (Option (List ByteArray))) : Prop := ∃ us : List Value, us.length = l.length ∧ Sl 1 w v (us.map fun u => [u]) ∧ ∀ (i : Nat) u o, us[i]? = some u → l[i]? = some o → SV w u o

theorem NL.later {w w' : World} {v : Value} {l : List (Option (List ByteArray))} (h : NL w v l) (hb : Below w.heap.size w w') : NL w' v l := by
  obtain ⟨us, h1, h2, h3⟩ := h
  exact ⟨us, h1, h2.later hb, fun i u o hu ho => (h3 i u o hu ho).later hb⟩

theorem NL.opened {w : World} {v : Value} {l : List (Option (List ByteArray))} (h : NL w v l) : ∃ p cap, v = .slice p l.length cap ∧ l.length ≤ cap ∧ cap ≤ maxLen ∧ (p = none → l = [] ∧ cap = 0) ∧
    Hid (∀ i o, l[i]? = some o → ∃ b off u, p = some ⟨b, off, none⟩ ∧ w.cell? ⟨b, off + i, none⟩ = some u ∧ SV w u o) := by
  obtain ⟨us, hl, hs, hu⟩ := h
  obtain ⟨p, cap, hv, h1, h2, h3, h4⟩ := hs.opened
  simp only [List.length_map, hl] at hv h1
  refine ⟨p, cap, hv, h1, h2, fun e => ⟨?_, (h3 e).2⟩, fun i o ho => ?_⟩
  · have := (h3 e).1
    have hz : us = [] := by simpa using this
    rw [hz] at hl
    exact List.length_eq_zero_iff.mp (by simpa using hl.symm)
  · have hi := (List.getElem?_eq_some_iff.mp ho).1
    obtain ⟨u, hui⟩ : ∃ u, us[i]? = some u := ⟨_, List.getElem?_eq_getElem (by omega)⟩
    obtain ⟨b, off, e, hc⟩ := h4.out i _ (by rw [List.getElem?_map, hui]; rfl)
    have h0 := hc 0 _ rfl
    rw [Nat.mul_one, Nat.add_zero] at h0
    exact ⟨b, off, u, e, h0, hu i u o hui ho⟩

/-- A header: what it holds under each key. -/
def HdrIs (w : World) (M : Nat) (F : ByteArray → Option (Option (List ByteArray))) (n : Nat) : Prop :=
  ∃ f, MapIs w M f n ∧ ∀ s, (F s = none ∧ f s = none) ∨ ∃ o v, F s = some o ∧ f s = some v ∧ SV w v o

theorem HdrIs.later {w w' : World} {M n : Nat} {F : ByteArray → Option (Option (List ByteArray))} (h : HdrIs w M F n) (hb : Below w.heap.size w w') : HdrIs w' M F n := by
  obtain ⟨f, hm, hf⟩ := h
  refine ⟨f, hm.same (hb.block _ hm.lt), fun s => ?_⟩
  rcases hf s with h | ⟨o, v, h1, h2, h3⟩
  · exact .inl h
  · exact .inr ⟨o, v, h1, h2, h3.later hb⟩

/-- The blocks from lo up to hi stand. -/
def Stand (lo hi : Nat) (w w' : World) : Prop := ∀ i, lo ≤ i → i < hi → w'.heap[i]? = w.heap[i]?

/-- A slice whose row lies from lo up to hi. -/
def Within (lo hi : Nat) (v : Value) : Prop := ∀ a k c, v = .slice (some a) k c → lo ≤ a.block ∧ a.block < hi

theorem SV.stand {lo hi : Nat} {w w' : World} {v : Value} {o : Option (List ByteArray)} (h : SV w v o) (hw : Within lo hi v) (hs : Stand lo hi w w') : SV w' v o := by
  cases o with
  | none => exact h
  | some l =>
    obtain ⟨⟨a, c, rfl⟩, hf⟩ := h
    obtain ⟨h1, h2⟩ := hw a _ _ rfl
    refine ⟨⟨a, c, rfl⟩, ?_, hf.2⟩
    obtain ⟨p, cap, e, g1, g2, g3, g4⟩ := hf.1
    refine ⟨p, cap, e, g1, g2, g3, fun hp => ?_⟩
    obtain ⟨b, off, e2, hc⟩ := g4 hp
    refine ⟨b, off, e2, fun i r hr j x hx => ?_⟩
    injection e with e1
    rw [e2] at e1
    obtain rfl := Option.some.inj e1
    rw [World.cell?_of_block (w := w) (w' := w') (a := ⟨b, off + i * 1 + j, none⟩) (hs b h1 h2)]
    exact hc i r hr j x hx

/-- A header whose blocks all lie from lo up to hi. -/
def HdrIn (lo hi : Nat) (w : World) (M : Nat) (F : ByteArray → Option (Option (List ByteArray))) (n : Nat) : Prop :=
  lo ≤ M ∧ M < hi ∧ ∃ f, MapIs w M f n ∧ ∀ s, (F s = none ∧ f s = none) ∨ ∃ o v, F s = some o ∧ f s = some v ∧ SV w v o ∧ Within lo hi v

theorem HdrIn.hdr {lo hi M n : Nat} {w : World} {F : ByteArray → Option (Option (List ByteArray))} (h : HdrIn lo hi w M F n) : HdrIs w M F n := by
  obtain ⟨_, _, f, hm, hf⟩ := h
  refine ⟨f, hm, fun s => ?_⟩
  rcases hf s with h | ⟨o, v, h1, h2, h3, _⟩
  · exact .inl h
  · exact .inr ⟨o, v, h1, h2, h3⟩

theorem HdrIn.stand {lo hi M n : Nat} {w w' : World} {F : ByteArray → Option (Option (List ByteArray))} (h : HdrIn lo hi w M F n) (hs : Stand lo hi w w') : HdrIn lo hi w' M F n := by
  obtain ⟨h1, h2, f, hm, hf⟩ := h
  refine ⟨h1, h2, f, hm.same (hs M h1 h2), fun s => ?_⟩
  rcases hf s with h | ⟨o, v, g1, g2, g3, g4⟩
  · exact .inl h
  · exact .inr ⟨o, v, g1, g2, g3.stand g4 hs, g4⟩

theorem HdrIn.wider {lo hi hi' M n : Nat} {w : World} {F : ByteArray → Option (Option (List ByteArray))} (h : HdrIn lo hi w M F n) (hh : hi ≤ hi') : HdrIn lo hi' w M F n := by
  obtain ⟨h1, h2, f, hm, hf⟩ := h
  refine ⟨h1, by omega, f, hm, fun s => ?_⟩
  rcases hf s with h | ⟨o, v, g1, g2, g3, g4⟩
  · exact .inl h
  · exact .inr ⟨o, v, g1, g2, g3, fun a k c e => by have := g4 a k c e; omega⟩

theorem Below.stands {B lo hi : Nat} {w w' : World} (h : Below B w w') (hh : hi ≤ B) : Stand lo hi w w' := fun i _ hi' => h.block i (by omega)

theorem below_alloc (w : World) (o : Obj) : Below w.heap.size w (w.alloc o) := (Below.refl _ _).alloc (Nat.le_refl _) o

theorem turned_below {B b : Nat} {w w' : World} (h : TurnedAt b w w') (hb : B ≤ b) : Below B w w' := by
  have ho := fun i (hi : i ≠ b) => h.other hi
  obtain ⟨es, clock, es', clock', hb', rfl⟩ := h
  exact ⟨rfl, rfl, rfl, by simp [ChangeMaps.setBlock], fun i hi => ho i (by omega)⟩

end Go.Proofs.Qxb6609179aDoor
