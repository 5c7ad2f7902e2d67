/-
  The plain law: what the steps leave.
-/
import Derived.Test.Qxb6609179aStore
namespace Go.Proofs.Qxb6609179a
open Go.RowKit

/-- The id behind the first i steps. -/
def idAt (pr : ByteArray) (bl : List Bool) (vs : List ByteArray) : Nat → ByteArray
  | 0 => pr
  | i + 1 => match bl[i]?, vs[i]? with
    | some true, some v => v
    | _, _ => idAt pr bl vs i

/-- The store behind the first i steps. -/
def fAt (bl : List Bool) (ks vs : List ByteArray) : Nat → ByteArray → Option Value
  | 0 => fun _ => none
  | i + 1 => match bl[i]?, ks[i]?, vs[i]? with
    | some false, some k, some v => upd (fAt bl ks vs i) k (strVal v)
    | _, _, _ => fAt bl ks vs i

section
variable {pr : ByteArray} {bl : List Bool} {ks vs : List ByteArray} {i n : Nat} {k v : ByteArray}

theorem idAt_set (hb : bl[i]? = some true) (hv : vs[i]? = some v) : idAt pr bl vs (i + 1) = v := by simp only [idAt, hb, hv]
theorem idAt_keep (hb : bl[i]? = some false) : idAt pr bl vs (i + 1) = idAt pr bl vs i := by simp only [idAt, hb]
theorem fAt_keep (hb : bl[i]? = some true) : fAt bl ks vs (i + 1) = fAt bl ks vs i := by simp only [fAt, hb]
theorem fAt_put (hb : bl[i]? = some false) (hk : ks[i]? = some k) (hv : vs[i]? = some v) : fAt bl ks vs (i + 1) = upd (fAt bl ks vs i) k (strVal v) := by simp only [fAt, hb, hk, hv]

/-- Where the key of step i is not put again, its value is that of step i. -/
theorem fAt_last (hb : bl[i]? = some false) (hk : ks[i]? = some k) (hv : vs[i]? = some v) (hn : n ≤ vs.length) : ∀ m, m ≤ n → i < m → (∀ j, i < j → j < m → bl[j]? = some false → ks[j]? ≠ some k) → fAt bl ks vs m k = some (strVal v)
  | 0, _, h, _ => by omega
  | m + 1, hm, h, hno => by
    by_cases him : i = m
    · subst him
      rw [fAt_put hb hk hv, upd_self]
    · have ih := fAt_last hb hk hv hn m (by omega) (by omega) fun j h1 h2 => hno j h1 (by omega)
      obtain ⟨v', hv'⟩ : ∃ v', vs[m]? = some v' := ⟨_, List.getElem?_eq_getElem (by omega)⟩
      rcases hbm : bl[m]? with _ | b
      · simp only [fAt, hbm]; exact ih
      · cases b
        · rcases hkm : ks[m]? with _ | k'
          · simp only [fAt, hbm, hkm]; exact ih
          · rw [fAt_put hbm hkm hv', upd_other]
            · exact ih
            · rintro rfl
              exact hno m (by omega) (by omega) hbm hkm
        · rw [fAt_keep hbm]; exact ih

/-- A key stands in the store if and only if some step put it. -/
theorem fAt_some (hv : n ≤ vs.length) (s : ByteArray) : ∀ m, m ≤ n → ((fAt bl ks vs m s).isSome = true ↔ ∃ j, j < m ∧ bl[j]? = some false ∧ ks[j]? = some s)
  | 0, _ => by
    constructor
    · intro h; simp [fAt] at h
    · rintro ⟨j, hj, _⟩; omega
  | m + 1, hm => by
    have ih := fAt_some hv s m (by omega)
    obtain ⟨v', hv'⟩ : ∃ v', vs[m]? = some v' := ⟨_, List.getElem?_eq_getElem (by omega)⟩
    by_cases hput : bl[m]? = some false ∧ ks[m]? = some s
    · rw [fAt_put hput.1 hput.2 hv', upd_self]
      exact ⟨fun _ => ⟨m, by omega, hput.1, hput.2⟩, fun _ => rfl⟩
    · have hsame : fAt bl ks vs (m + 1) s = fAt bl ks vs m s := by
        rcases hbm : bl[m]? with _ | b
        · simp only [fAt, hbm]
        · cases b
          · rcases hkm : ks[m]? with _ | k'
            · simp only [fAt, hbm, hkm]
            · rw [fAt_put hbm hkm hv', upd_other]
              rintro rfl
              exact hput ⟨hbm, hkm⟩
          · rw [fAt_keep hbm]
      rw [hsame, ih]
      constructor
      · rintro ⟨j, hj, h1, h2⟩
        exact ⟨j, by omega, h1, h2⟩
      · rintro ⟨j, hj, h1, h2⟩
        by_cases hjm : j = m
        · subst hjm
          exact absurd ⟨h1, h2⟩ hput
        · exact ⟨j, by omega, h1, h2⟩

/-- The keys that the steps from i up to n put. -/
def SeenFrom (bl : List Bool) (ks : List ByteArray) (i n : Nat) (g : ByteArray → Option Value) : Prop :=
  (∀ s, g s = none ∨ g s = some (.bool true)) ∧ ∀ s, (g s).isSome = true ↔ ∃ j, i ≤ j ∧ j < n ∧ bl[j]? = some false ∧ ks[j]? = some s

theorem SeenFrom.start (bl : List Bool) (ks : List ByteArray) (n : Nat) : SeenFrom bl ks n n (fun _ => none) :=
  ⟨fun _ => .inl rfl, fun s => ⟨fun h => by simp at h, fun ⟨j, h1, h2, _⟩ => by omega⟩⟩

theorem SeenFrom.skip {g : ByteArray → Option Value} (h : SeenFrom bl ks (i + 1) n g) (hb : bl[i]? = some true) : SeenFrom bl ks i n g := by
  refine ⟨h.1, fun s => (h.2 s).trans ⟨fun ⟨j, h1, h2, h3⟩ => ⟨j, by omega, h2, h3⟩, fun ⟨j, h1, h2, h3, h4⟩ => ?_⟩⟩
  by_cases hj : j = i
  · subst hj
    rw [hb] at h3
    simp at h3
  · exact ⟨j, by omega, h2, h3, h4⟩

theorem SeenFrom.again {g : ByteArray → Option Value} (h : SeenFrom bl ks (i + 1) n g) (hk : ks[i]? = some k) (hg : (g k).isSome = true) : SeenFrom bl ks i n g := by
  refine ⟨h.1, fun s => (h.2 s).trans ⟨fun ⟨j, h1, h2, h3⟩ => ⟨j, by omega, h2, h3⟩, fun ⟨j, h1, h2, h3, h4⟩ => ?_⟩⟩
  by_cases hj : j = i
  · subst hj
    obtain rfl : k = s := Option.some.inj (hk.symm.trans h4)
    exact (h.2 k).mp hg
  · exact ⟨j, by omega, h2, h3, h4⟩

theorem SeenFrom.put {g : ByteArray → Option Value} (h : SeenFrom bl ks (i + 1) n g) (hin : i < n) (hb : bl[i]? = some false) (hk : ks[i]? = some k) : SeenFrom bl ks i n (upd g k (.bool true)) := by
  refine ⟨fun s => ?_, fun s => ?_⟩
  · by_cases hs : s = k
    · subst hs
      exact .inr (upd_self _ _ _)
    · rw [upd_other hs]
      exact h.1 s
  · by_cases hs : s = k
    · subst hs
      rw [upd_self]
      exact ⟨fun _ => ⟨i, by omega, hin, hb, hk⟩, fun _ => rfl⟩
    · rw [upd_other hs, h.2 s]
      constructor
      · rintro ⟨j, h1, h2, h3⟩
        exact ⟨j, by omega, h2, h3⟩
      · rintro ⟨j, h1, h2, h3, h4⟩
        by_cases hj : j = i
        · subst hj
          exact absurd (Option.some.inj (h4.symm.trans hk)) hs
        · exact ⟨j, by omega, h2, h3, h4⟩

theorem SeenFrom.fresh {g : ByteArray → Option Value} (h : SeenFrom bl ks (i + 1) n g) (hg : (g k).isSome = false) : ∀ j, i < j → j < n → bl[j]? = some false → ks[j]? ≠ some k := by
  intro j h1 h2 h3 h4
  have := (h.2 k).mpr ⟨j, by omega, h2, h3, h4⟩
  rw [hg] at this
  simp at this

end

theorem Vals.below {B C n : Nat} {w w' : World} {mv : Value} {f : ByteArray → Option Value} (h : Vals B w C mv f n) (hb : Below w.heap.size w w') : Vals B w' C mv f n := by
  rcases h with h | ⟨M, h1, h2, h3, h4⟩
  · exact .inl h
  · exact .inr ⟨M, h1, h2, h3, h4.same (hb.block _ h4.lt)⟩

/-- The two sizes are one. -/
theorem sizes {B C m d S n : Nat} {w w' : World} {mv : Value} {bl : List Bool} {ks vs : List ByteArray} {g : ByteArray → Option Value} (hv : Vals B w C mv (fAt bl ks vs n) m) (hg : MapIs w' S g d) (hs : SeenFrom bl ks 0 n g) (hn : n ≤ vs.length) : m = d := by
  have key : ∀ s, (fAt bl ks vs n s).isSome = true ↔ (g s).isSome = true := fun s => by
    rw [fAt_some hn s n (Nat.le_refl _), hs.2 s]
    constructor
    · rintro ⟨j, h1, h2⟩; exact ⟨j, by omega, h1, h2⟩
    · rintro ⟨j, _, h1, h2⟩; exact ⟨j, h1, h2⟩
  rcases hv with ⟨_, hf, rfl⟩ | ⟨M, _, _, _, hM⟩
  · have := hg.size_le (MapIs.made w) (fun s h => by have := (key s).mpr h; rw [hf s] at this; simp at this)
    omega
  · have h1 := hM.size_le hg (fun s h => (key s).mp h)
    have h2 := hg.size_le hM (fun s h => (key s).mpr h)
    omega

end Go.Proofs.Qxb6609179a
