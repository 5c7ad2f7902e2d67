/-
  The search for a node in a sorted list: notReady$1, BinarySearchFunc, notReady.
-/
import Derived.Test.Qxb6609165aBase
import Derived.Test.Qxb6609165aShelf
namespace Go.Proofs.Qxb6609165a
open Go.RowKit

theorem cmp_neg : ∀ a b : List UInt8, (Lib.compareBytes a b < 0) = (a < b)
  | [], [] => by simp [Lib.compareBytes]
  | [], b :: ys => by simp [Lib.compareBytes]
  | a :: xs, [] => by simp [Lib.compareBytes]
  | a :: xs, b :: ys => by
    have ih := cmp_neg xs ys
    simp only [Lib.compareBytes, List.cons_lt_cons_iff]
    by_cases h1 : a < b
    · simp [h1]
    · by_cases h2 : b < a
      · have : ¬ a = b := fun e => by subst e; exact h1 h2
        simp [h1, h2, this]
      · have : a = b := UInt8.le_antisymm (UInt8.not_lt.mp h2) (UInt8.not_lt.mp h1)
        simp [this, ih, UInt8.lt_irrefl]

theorem cmp_self : ∀ a : List UInt8, Lib.compareBytes a a = 0
  | [] => rfl
  | a :: xs => by simp [Lib.compareBytes, UInt8.lt_irrefl, cmp_self xs]

/-- The call answers v; what stood before it stands. -/
def Gives (v : Value) (w : World) (e : Ending) (w' : World) : Prop := e = .returned v ∧ Below w.heap.size w w'

set_option maxHeartbeats 1000000 in
theorem nodeCmp_any (x t : ByteArray) (s : Int) (w : World) :
    Calls Try.prog 45 #[.agg #[.string x, .int .u64 s], .string t] w (Gives (.int .i64 (Lib.compareBytes x.data.toList t.data.toList)) w) := by
  go_enter Try.func45, Try.ntmps45
  go_wp2_with (go_at_call 46; refine (Try.strings_Compare _ _ _).mono ?_; rintro e w' ⟨rfl, rfl⟩)
  go_ret
  exact ⟨rfl, (Below.refl _ _).alloc (Nat.le_refl _) _⟩

/-- The names of the entries ascend strictly. -/
def Asc (c : List (ByteArray × Int)) : Prop := c.Pairwise fun x y => x.1.data.toList < y.1.data.toList

theorem Asc.neg {c : List (ByteArray × Int)} (h : Asc c) {i m : Nat} {x y : ByteArray × Int} (hx : c[i]? = some x) (hy : c[m]? = some y) : (Lib.compareBytes x.1.data.toList y.1.data.toList < 0) = (i < m) := by
  rw [cmp_neg]
  obtain ⟨hi, rfl⟩ := List.getElem?_eq_some_iff.mp hx
  obtain ⟨hm, rfl⟩ := List.getElem?_eq_some_iff.mp hy
  have hp := List.pairwise_iff_getElem.mp h
  apply propext
  constructor
  · intro hlt
    rcases Nat.lt_trichotomy i m with h1 | h1 | h1
    · exact h1
    · subst h1
      exact absurd hlt (List.lt_irrefl _)
    · exact absurd (List.lt_trans hlt (hp m i hm hi h1)) (List.lt_irrefl _)
  · exact fun h1 => hp i m hi hm h1

theorem get_nr {c : List (ByteArray × Int)} {i : Nat} (h : i < c.length) : ∃ a b, c[i]? = some (a, b) := ⟨c[i].1, c[i].2, by rw [List.getElem?_eq_getElem h]⟩

set_option maxRecDepth 20000 in
set_option maxHeartbeats 1000000 in
theorem search_any (v : Value) (c : List (ByteArray × Int)) (m : Nat) (t : ByteArray) (ts : Int) (w : World) (hv : NRL w v c) (ha : Asc c) (hm : c[m]? = some (t, ts)) (hc : c.length ≤ 1048576) :
    Calls Try.prog 44 #[v, .string t, .func (.func 45) #[] #[]] w (Gives (.tuple #[.int .i64 m, .bool true]) w) := by
  have HV : Hid (NRL w v c) := hv
  have hml : m < c.length := (List.getElem?_eq_some_iff.mp hm).1
  obtain ⟨p, cap, rfl, hl, hcm, _, HC⟩ := hv.opened
  have HM : Hid (c[m]? = some (t, ts)) := hm
  clear hm hv
  unfold maxLen at hcm
  go_enter Try.func44, Try.ntmps44
  go_wp2
  go_loopw [9, 10] (fun i j w' => Below w.heap.size w w' ∧ ∃ (a b : Nat), i = .int .i64 a ∧ j = .int .i64 b ∧ a ≤ m ∧ m ≤ b ∧ b ≤ c.length) (fun i j _ => (intOf j).toNat - (intOf i).toNat)
  case atStart => exact ⟨Below.refl _ _, 0, c.length, rfl, rfl, by omega, by omega, by omega⟩
  case round =>
    obtain ⟨hb, i, j, rfl, rfl, h1, h2, h3⟩ := hrel
    have HB : Hid (Below w.heap.size w wr) := hb
    clear hb
    by_cases hij : i < j
    · obtain ⟨q, hq⟩ : ∃ q : Nat, ((i : Int) + j) / 2 = q := ⟨(i + j) / 2, by omega⟩
      obtain ⟨x, s, hx⟩ := get_nr (c := c) (i := q) (by omega)
      obtain ⟨b, off, rfl, d1, d2, _⟩ := HC.out q _ hx
      replace d1 := cell_later HB.out d1
      replace d2 := cell_later HB.out d2
      have hn := ha.neg hx HM.out
      clear hx
      dsimp only at d1 d2 hn
      generalize hz : Lib.compareBytes x.data.toList t.data.toList = z at hn
      have HZ : Hid (Lib.compareBytes x.data.toList t.data.toList = z) := hz
      clear hz
      by_cases hqm : q < m
      · have hz : z < 0 := by simpa [hqm] using hn
        clear hn
        go_wp2_with (go_at_call 45; refine (nodeCmp_any _ _ _ _).mono ?_; rintro e w' ⟨rfl, hb'⟩; rw [HZ.out])
        go_roundw
        case rel => exact ⟨HB.out.trans (hb'.mono HB.out.size), q + 1, j, by go_num, rfl, by omega, by omega, by omega⟩
        case measure => simp [intOf]; omega
      · have hz : 0 ≤ z := by simpa [hqm] using hn
        clear hn
        go_wp2_with (go_at_call 45; refine (nodeCmp_any _ _ _ _).mono ?_; rintro e w' ⟨rfl, hb'⟩; rw [HZ.out])
        go_roundw
        case rel => exact ⟨HB.out.trans (hb'.mono HB.out.size), i, q, rfl, by go_num, by omega, by omega, by omega⟩
        case measure => simp [intOf]; omega
    · have him : i = m := by omega
      subst him
      obtain ⟨b, off, rfl, d1, d2, _⟩ := HC.out i _ HM.out
      replace d1 := cell_later HB.out d1
      replace d2 := cell_later HB.out d2
      dsimp only at d1 d2
      go_wp2_with (go_at_call 45; refine (nodeCmp_any _ _ _ _).mono ?_; rintro e w' ⟨rfl, hb'⟩; rw [cmp_self])
      go_ret2
      exact ⟨rfl, HB.out.trans (hb'.mono HB.out.size)⟩

end Go.Proofs.Qxb6609165a
