/-
  Rows laid end to end: what a slice holds, as one list of cells.
-/
import Derived.Test.Qxb6609165aBase
namespace Go.Proofs.Qxb6609165a
open Go.RowKit

theorem flat_len {sz : Nat} : ∀ {l : List (List Value)}, (∀ r ∈ l, r.length = sz) → l.flatten.length = l.length * sz
  | [], _ => by simp
  | r :: l, h => by
    have ih := flat_len (l := l) fun r' hr => h r' (List.mem_cons_of_mem _ hr)
    have hr := h r List.mem_cons_self
    rw [List.flatten_cons, List.length_append, ih, hr, List.length_cons, Nat.add_mul]
    omega

theorem flat_get {sz : Nat} (h0 : 0 < sz) : ∀ {l : List (List Value)}, (∀ r ∈ l, r.length = sz) → ∀ {j : Nat} {u : Value}, l.flatten[j]? = some u → ∃ i k r, j = i * sz + k ∧ k < sz ∧ l[i]? = some r ∧ r[k]? = some u
  | [], _, j, u, hu => by simp at hu
  | r :: l, h, j, u, hu => by
    have hr := h r List.mem_cons_self
    rw [List.flatten_cons] at hu
    by_cases hj : j < r.length
    · rw [List.getElem?_append_left hj] at hu
      exact ⟨0, j, r, by omega, by omega, rfl, hu⟩
    · rw [List.getElem?_append_right (by omega)] at hu
      obtain ⟨i, k, r', e, hk, h1, h2⟩ := flat_get h0 (fun r' hr => h r' (List.mem_cons_of_mem _ hr)) hu
      refine ⟨i + 1, k, r', ?_, hk, by simpa using h1, h2⟩
      rw [Nat.add_mul]
      omega

theorem flat_at {sz : Nat} : ∀ {l : List (List Value)}, (∀ r ∈ l, r.length = sz) → ∀ {i k : Nat} {r : List Value} {u : Value}, l[i]? = some r → r[k]? = some u → l.flatten[i * sz + k]? = some u
  | [], _, i, k, r, u, h1, _ => by simp at h1
  | r0 :: l, h, 0, k, r, u, h1, h2 => by
    obtain rfl : r0 = r := by simpa using h1
    have := (List.getElem?_eq_some_iff.mp h2).1
    rw [List.flatten_cons, Nat.zero_mul, Nat.zero_add, List.getElem?_append_left this]
    exact h2
  | r0 :: l, h, i + 1, k, r, u, h1, h2 => by
    have hr := h r0 List.mem_cons_self
    rw [List.flatten_cons, Nat.add_mul, List.getElem?_append_right (by omega), show i * sz + 1 * sz + k - r0.length = i * sz + k by omega]
    exact flat_at (fun r' hr => h r' (List.mem_cons_of_mem _ hr)) (by simpa using h1) h2

/-- The cells of a slice, end to end. -/
theorem Sl.cells {sz : Nat} (h0 : 0 < sz) {w : World} {b off n cap : Nat} {l : List (List Value)} (h : Sl sz w (.slice (some ⟨b, off, none⟩) n cap) l) (hl : ∀ r ∈ l, r.length = sz) :
    ∀ j u, l.flatten[j]? = some u → w.cell? ((⟨b, off, none⟩ : Addr).add j) = some u := by
  intro j u hu
  obtain ⟨i, k, r, rfl, _, h1, h2⟩ := flat_get h0 hl hu
  obtain ⟨p, c, e, _, _, _, H⟩ := h.opened
  obtain ⟨b', off', e', hc⟩ := H.out i r h1
  injection e with e1
  rw [← e1] at e'
  injection e' with e'
  injection e' with e2 e3
  subst e2 e3
  rw [Addr.add_lit, ← Nat.add_assoc]
  exact hc k u h2

/-- An owned row holds its rows. -/
theorem Sl.of_own {sz : Nat} {w : World} {base : Nat} {e : TypeId} {v : Value} {l : List (List Value)} (h : w.ownsRow base e sz v l.length l.flatten) (hl : ∀ r ∈ l, r.length = sz) : Sl sz w v l := by
  obtain ⟨h1, ⟨rfl, hn⟩ | ⟨g, cap, cur, rfl, hg, hh, hc, hm, hs, ht⟩⟩ := h
  · exact ⟨none, 0, by rw [hn], by omega, by unfold maxLen; omega, fun _ => ⟨List.eq_nil_of_length_eq_zero hn, rfl⟩, fun h => by omega⟩
  · refine ⟨_, cap, rfl, hc, hm, fun h => by simp at h, fun _ => ⟨g, 0, rfl, fun i r hr j x hx => ?_⟩⟩
    have hf := flat_at hl hr hx
    rw [← ht] at hf
    have hlt := (List.getElem?_eq_some_iff.mp hf).1
    rw [List.getElem?_take, if_pos (by rw [List.length_take] at hlt; omega)] at hf
    have : w.cell? ⟨g, 0 + i * sz + j, none⟩ = cur[0 + i * sz + j]? := by simp [World.cell?, hh]
    rw [this, Nat.zero_add]
    simpa using hf

end Go.Proofs.Qxb6609165a
