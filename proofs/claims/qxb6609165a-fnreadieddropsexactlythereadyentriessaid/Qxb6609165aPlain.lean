/-
  The plain laws: which entries stay.
-/
import Derived.Test.Qxb6609165aMark
namespace Go.Proofs.Qxb6609165a
open Go.RowKit

/-- The entries that stay: those that are not ready. -/
def stay (rd : Nat → ByteArray → Bool) (k : Nat) (es : List (ByteArray × Int)) : List (ByteArray × Int) := es.filter fun x => !rd k x.1

/-- The list at slot k when its first j entries have been looked at. -/
def cur (rd : Nat → ByteArray → Bool) (k : Nat) (es : List (ByteArray × Int)) (j : Nat) : List (ByteArray × Int) := stay rd k (es.take j) ++ es.drop j

theorem cur_zero (rd : Nat → ByteArray → Bool) (k : Nat) (es : List (ByteArray × Int)) : cur rd k es 0 = es := by simp [cur, stay]

theorem cur_all (rd : Nat → ByteArray → Bool) (k : Nat) (es : List (ByteArray × Int)) : cur rd k es es.length = stay rd k es := by simp [cur]

theorem cur_split {rd : Nat → ByteArray → Bool} {k : Nat} {es : List (ByteArray × Int)} {j : Nat} {x : ByteArray × Int} (h : es[j]? = some x) : cur rd k es j = stay rd k (es.take j) ++ x :: es.drop (j + 1) := by
  unfold cur
  obtain ⟨hj, rfl⟩ := List.getElem?_eq_some_iff.mp h
  rw [List.drop_eq_getElem_cons hj]

theorem stay_succ {rd : Nat → ByteArray → Bool} {k : Nat} {es : List (ByteArray × Int)} {j : Nat} {x : ByteArray × Int} (h : es[j]? = some x) : stay rd k (es.take (j + 1)) = stay rd k (es.take j) ++ (if rd k x.1 then [] else [x]) := by
  unfold stay
  rw [List.take_add_one, h]
  cases hr : rd k x.1 <;> simp [hr]

theorem cur_skip {rd : Nat → ByteArray → Bool} {k : Nat} {es : List (ByteArray × Int)} {j : Nat} {x : ByteArray × Int} (h : es[j]? = some x) (hr : rd k x.1 = false) : cur rd k es (j + 1) = cur rd k es j := by
  rw [cur_split h]
  unfold cur
  rw [stay_succ h, hr]
  simp

theorem cur_drop {rd : Nat → ByteArray → Bool} {k : Nat} {es : List (ByteArray × Int)} {j : Nat} {x : ByteArray × Int} (h : es[j]? = some x) (hr : rd k x.1 = true) :
    (cur rd k es j)[(stay rd k (es.take j)).length]? = some x ∧ (cur rd k es j).eraseIdx (stay rd k (es.take j)).length = cur rd k es (j + 1) := by
  rw [cur_split h]
  constructor
  · simp
  · unfold cur
    rw [stay_succ h, hr, List.eraseIdx_append_of_length_le (Nat.le_refl _)]
    simp

theorem cur_sub (rd : Nat → ByteArray → Bool) (k : Nat) (es : List (ByteArray × Int)) (j : Nat) : (cur rd k es j).Sublist es := by
  unfold cur stay
  have h := List.Sublist.append (List.filter_sublist (p := fun x : ByteArray × Int => !rd k x.1) (l := es.take j)) (List.Sublist.refl (es.drop j))
  rwa [List.take_append_drop] at h

theorem Asc.sub {c d : List (ByteArray × Int)} (h : Asc d) (hs : c.Sublist d) : Asc c := List.Pairwise.sublist hs h

theorem stay_quiet {rd : Nat → ByteArray → Bool} {k : Nat} {es : List (ByteArray × Int)} (h : ∀ x ∈ es, rd k x.1 = false) : stay rd k es = es := by
  unfold stay
  rw [List.filter_eq_self]
  intro x hx
  simp [h x hx]

theorem cur_quiet {rd : Nat → ByteArray → Bool} {k : Nat} {es : List (ByteArray × Int)} {j : Nat} (h : ∀ x ∈ es.take j, rd k x.1 = false) : cur rd k es j = es := by
  unfold cur
  rw [stay_quiet h, List.take_append_drop]

theorem take_succ_quiet {rd : Nat → ByteArray → Bool} {k : Nat} {es : List (ByteArray × Int)} {j : Nat} {x : ByteArray × Int} (hx : es[j]? = some x) (hr : rd k x.1 = false) (h : ∀ y ∈ es.take j, rd k y.1 = false) : ∀ y ∈ es.take (j + 1), rd k y.1 = false := by
  intro y hy
  rw [List.take_add_one, hx] at hy
  rcases List.mem_append.mp hy with hy | hy
  · exact h y hy
  · obtain rfl : y = x := by simpa using hy
    exact hr

theorem take_succ_old {es : List (ByteArray × Int)} {j : Nat} {y : ByteArray × Int} (h : y ∈ es.take j) : y ∈ es.take (j + 1) := by
  rw [List.take_add_one]
  exact List.mem_append_left _ h

theorem take_succ_new {es : List (ByteArray × Int)} {j : Nat} {x : ByteArray × Int} (hx : es[j]? = some x) : x ∈ es.take (j + 1) := by
  rw [List.take_add_one, hx]
  simp

end Go.Proofs.Qxb6609165a
