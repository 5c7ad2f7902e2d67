/-
  The words in which the walks over the tables speak; zzIsReady, zzAdd.
-/
import Derived.Test.Qxb6609165aRows
import Derived.WalkKit
import Derived.WalkSpells
import Derived.WalkLawsBesides
import Derived.Deep.QuietTactic
import Derived.BigQuiet
namespace Go.Proofs.Qxb6609165a
open Go.RowKit

theorem ret_bool {a b : Bool} (h : a = b) : Ending.returned (.bool a) = .returned (.bool b) := by rw [h]

theorem add_plain (b o i : Nat) : (⟨b, o, none⟩ : Addr).add i = ⟨b, o + i, none⟩ := by unfold Addr.add; split <;> simp_all

/-- The slice value v, of elements of sz cells, holds the rows l in the world w. -/
def Sl (sz : Nat) (w : World) (v : Value) (l : List (List Value)) : Prop :=
  ∃ p cap, v = .slice p l.length cap ∧ l.length ≤ cap ∧ cap ≤ maxLen ∧ (p = none → l = [] ∧ cap = 0) ∧
    (0 < l.length → ∃ b off, p = some ⟨b, off, none⟩ ∧ ∀ i r, l[i]? = some r → ∀ j x, r[j]? = some x → w.cell? ⟨b, off + i * sz + j, none⟩ = some x)

theorem Sl.later {sz : Nat} {w w' : World} {v : Value} {l : List (List Value)} (h : Sl sz w v l) (hb : Below w.heap.size w w') : Sl sz w' v l := by
  obtain ⟨p, cap, hv, h1, h2, h3, h4⟩ := h
  refine ⟨p, cap, hv, h1, h2, h3, fun hp => ?_⟩
  obtain ⟨b, off, e, hc⟩ := h4 hp
  exact ⟨b, off, e, fun i r hr j x hx => cell_later hb (hc i r hr j x hx)⟩

/-- What Sl says of one row, its slice value opened. -/
theorem Sl.opened {sz : Nat} {w : World} {v : Value} {l : List (List Value)} (h : Sl sz w v l) : ∃ p cap, v = .slice p l.length cap ∧ l.length ≤ cap ∧ cap ≤ maxLen ∧ (p = none → l = [] ∧ cap = 0) ∧
    Hid (∀ i r, l[i]? = some r → ∃ b off, p = some ⟨b, off, none⟩ ∧ ∀ j x, r[j]? = some x → w.cell? ⟨b, off + i * sz + j, none⟩ = some x) := by
  obtain ⟨p, cap, hv, h1, h2, h3, h4⟩ := h
  refine ⟨p, cap, hv, h1, h2, h3, fun i r hr => ?_⟩
  obtain ⟨b, off, e, hc⟩ := h4 (Nat.lt_of_le_of_lt (Nat.zero_le i) (List.getElem?_eq_some_iff.mp hr).1)
  exact ⟨b, off, e, hc i r hr⟩

/-- Entries to make ready: (slot, node). -/
def RL (w : World) (v : Value) (l : List (Int × ByteArray)) : Prop := Sl 2 w v (l.map fun x => [.int .i64 x.1, .string x.2]) ∧ ∀ x ∈ l, x.2.size ≤ maxLen
/-- Entries that are not ready: (node, since). -/
def NRL (w : World) (v : Value) (l : List (ByteArray × Int)) : Prop := Sl 2 w v (l.map fun x => [.string x.1, .int .u64 x.2]) ∧ ∀ x ∈ l, x.1.size ≤ maxLen
/-- Addresses: (node, address). -/
def AL (w : World) (v : Value) (l : List (ByteArray × ByteArray)) : Prop := Sl 2 w v (l.map fun x => [.string x.1, .string x.2]) ∧ ∀ x ∈ l, x.1.size ≤ maxLen ∧ x.2.size ≤ maxLen
/-- Strings. -/
def FL (w : World) (v : Value) (l : List ByteArray) : Prop := Sl 1 w v (l.map fun x => [.string x]) ∧ ∀ x ∈ l, x.size ≤ maxLen

/-- A slot: its fields, and what its two slices hold. -/
structure SlotD where
  id : Int
  leader : ByteArray
  lepoch : Int
  fol : Value
  fs : List ByteArray
  nr : Value
  es : List (ByteArray × Int)

def SlotD.row (s : SlotD) : List Value := [.int .i64 s.id, .string s.leader, .int .u64 s.lepoch, s.fol, s.nr]

/-- Slots. -/
def SLs (w : World) (v : Value) (l : List SlotD) : Prop := Sl 5 w v (l.map SlotD.row) ∧ ∀ s ∈ l, s.leader.size ≤ maxLen ∧ FL w s.fol s.fs ∧ NRL w s.nr s.es

theorem NRL.later {w w' : World} {v : Value} {l : List (ByteArray × Int)} (h : NRL w v l) (hb : Below w.heap.size w w') : NRL w' v l := ⟨h.1.later hb, h.2⟩
theorem RL.later {w w' : World} {v : Value} {l : List (Int × ByteArray)} (h : RL w v l) (hb : Below w.heap.size w w') : RL w' v l := ⟨h.1.later hb, h.2⟩
theorem AL.later {w w' : World} {v : Value} {l : List (ByteArray × ByteArray)} (h : AL w v l) (hb : Below w.heap.size w w') : AL w' v l := ⟨h.1.later hb, h.2⟩
theorem FL.later {w w' : World} {v : Value} {l : List ByteArray} (h : FL w v l) (hb : Below w.heap.size w w') : FL w' v l := ⟨h.1.later hb, h.2⟩
theorem SLs.later {w w' : World} {v : Value} {l : List SlotD} (h : SLs w v l) (hb : Below w.heap.size w w') : SLs w' v l :=
  ⟨h.1.later hb, fun s hs => ⟨(h.2 s hs).1, (h.2 s hs).2.1.later hb, (h.2 s hs).2.2.later hb⟩⟩

theorem RL.opened {w : World} {v : Value} {l : List (Int × ByteArray)} (h : RL w v l) : ∃ p cap, v = .slice p l.length cap ∧ l.length ≤ cap ∧ cap ≤ maxLen ∧ (p = none → l = [] ∧ cap = 0) ∧
    Hid (∀ i x, l[i]? = some x → ∃ b off, p = some ⟨b, off, none⟩ ∧ w.cell? ⟨b, off + i * 2, none⟩ = some (.int .i64 x.1) ∧ w.cell? ⟨b, off + i * 2 + 1, none⟩ = some (.string x.2) ∧ x.2.size ≤ maxLen) := by
  obtain ⟨⟨p, cap, hv, h1, h2, h3, h4⟩, hs⟩ : (∃ p cap, v = .slice p _ cap ∧ _) ∧ _ := ⟨h.1.opened, h.2⟩
  simp only [List.length_map] at hv h1
  refine ⟨p, cap, hv, h1, h2, fun e => ⟨by simpa using (h3 e).1, (h3 e).2⟩, fun i x hx => ?_⟩
  obtain ⟨b, off, e, hc⟩ := h4.out i _ (by rw [List.getElem?_map, hx]; rfl)
  exact ⟨b, off, e, hc 0 _ rfl, hc 1 _ rfl, hs x (List.mem_of_getElem? hx)⟩

theorem NRL.opened {w : World} {v : Value} {l : List (ByteArray × Int)} (h : NRL w v l) : ∃ p cap, v = .slice p l.length cap ∧ l.length ≤ cap ∧ cap ≤ maxLen ∧ (p = none → l = [] ∧ cap = 0) ∧
    Hid (∀ i x, l[i]? = some x → ∃ b off, p = some ⟨b, off, none⟩ ∧ w.cell? ⟨b, off + i * 2, none⟩ = some (.string x.1) ∧ w.cell? ⟨b, off + i * 2 + 1, none⟩ = some (.int .u64 x.2) ∧ x.1.size ≤ maxLen) := by
  obtain ⟨⟨p, cap, hv, h1, h2, h3, h4⟩, hs⟩ : (∃ p cap, v = .slice p _ cap ∧ _) ∧ _ := ⟨h.1.opened, h.2⟩
  simp only [List.length_map] at hv h1
  refine ⟨p, cap, hv, h1, h2, fun e => ⟨by simpa using (h3 e).1, (h3 e).2⟩, fun i x hx => ?_⟩
  obtain ⟨b, off, e, hc⟩ := h4.out i _ (by rw [List.getElem?_map, hx]; rfl)
  exact ⟨b, off, e, hc 0 _ rfl, hc 1 _ rfl, hs x (List.mem_of_getElem? hx)⟩

theorem AL.opened {w : World} {v : Value} {l : List (ByteArray × ByteArray)} (h : AL w v l) : ∃ p cap, v = .slice p l.length cap ∧ l.length ≤ cap ∧ cap ≤ maxLen ∧ (p = none → l = [] ∧ cap = 0) ∧
    Hid (∀ i x, l[i]? = some x → ∃ b off, p = some ⟨b, off, none⟩ ∧ w.cell? ⟨b, off + i * 2, none⟩ = some (.string x.1) ∧ w.cell? ⟨b, off + i * 2 + 1, none⟩ = some (.string x.2) ∧ x.1.size ≤ maxLen ∧ x.2.size ≤ maxLen) := by
  obtain ⟨⟨p, cap, hv, h1, h2, h3, h4⟩, hs⟩ : (∃ p cap, v = .slice p _ cap ∧ _) ∧ _ := ⟨h.1.opened, h.2⟩
  simp only [List.length_map] at hv h1
  refine ⟨p, cap, hv, h1, h2, fun e => ⟨by simpa using (h3 e).1, (h3 e).2⟩, fun i x hx => ?_⟩
  obtain ⟨b, off, e, hc⟩ := h4.out i _ (by rw [List.getElem?_map, hx]; rfl)
  exact ⟨b, off, e, hc 0 _ rfl, hc 1 _ rfl, hs x (List.mem_of_getElem? hx)⟩

theorem FL.opened {w : World} {v : Value} {l : List ByteArray} (h : FL w v l) : ∃ p cap, v = .slice p l.length cap ∧ l.length ≤ cap ∧ cap ≤ maxLen ∧ (p = none → l = [] ∧ cap = 0) ∧
    Hid (∀ i x, l[i]? = some x → ∃ b off, p = some ⟨b, off, none⟩ ∧ w.cell? ⟨b, off + i, none⟩ = some (.string x) ∧ x.size ≤ maxLen) := by
  obtain ⟨⟨p, cap, hv, h1, h2, h3, h4⟩, hs⟩ : (∃ p cap, v = .slice p _ cap ∧ _) ∧ _ := ⟨h.1.opened, h.2⟩
  simp only [List.length_map] at hv h1
  refine ⟨p, cap, hv, h1, h2, fun e => ⟨by simpa using (h3 e).1, (h3 e).2⟩, fun i x hx => ?_⟩
  obtain ⟨b, off, e, hc⟩ := h4.out i _ (by rw [List.getElem?_map, hx]; rfl)
  have h0 := hc 0 _ rfl
  rw [Nat.mul_one, Nat.add_zero] at h0
  exact ⟨b, off, e, h0, hs x (List.mem_of_getElem? hx)⟩

theorem SLs.opened {w : World} {v : Value} {l : List SlotD} (h : SLs w v l) : ∃ p cap, v = .slice p l.length cap ∧ l.length ≤ cap ∧ cap ≤ maxLen ∧ (p = none → l = [] ∧ cap = 0) ∧
    Hid (∀ i x, l[i]? = some x → ∃ b off, p = some ⟨b, off, none⟩ ∧ (w.cell? ⟨b, off + i * 5, none⟩ = some (.int .i64 x.id) ∧ w.cell? ⟨b, off + i * 5 + 1, none⟩ = some (.string x.leader) ∧ w.cell? ⟨b, off + i * 5 + 2, none⟩ = some (.int .u64 x.lepoch) ∧
      w.cell? ⟨b, off + i * 5 + 3, none⟩ = some x.fol ∧ w.cell? ⟨b, off + i * 5 + 4, none⟩ = some x.nr) ∧ x.leader.size ≤ maxLen ∧ FL w x.fol x.fs ∧ NRL w x.nr x.es) := by
  obtain ⟨⟨p, cap, hv, h1, h2, h3, h4⟩, hs⟩ : (∃ p cap, v = .slice p _ cap ∧ _) ∧ _ := ⟨h.1.opened, h.2⟩
  simp only [List.length_map] at hv h1
  refine ⟨p, cap, hv, h1, h2, fun e => ⟨by simpa using (h3 e).1, (h3 e).2⟩, fun i x hx => ?_⟩
  obtain ⟨b, off, e, hc⟩ := h4.out i _ (by rw [List.getElem?_map, hx]; rfl)
  exact ⟨b, off, e, ⟨hc 0 _ rfl, hc 1 _ rfl, hc 2 _ rfl, hc 3 _ rfl, hc 4 _ rfl⟩, hs x (List.mem_of_getElem? hx)⟩

/-- Is the pair listed? -/
def isReady (l : List (Int × ByteArray)) (slot : Int) (node : ByteArray) : Bool := l.any fun x => x.1 == slot && x.2.toList == node.toList

theorem isReady_take_succ {l : List (Int × ByteArray)} {k : Nat} {x : Int × ByteArray} (h : l[k]? = some x) (slot : Int) (node : ByteArray) : isReady (l.take (k + 1)) slot node = (isReady (l.take k) slot node || (x.1 == slot && x.2.toList == node.toList)) := by
  unfold isReady
  rw [List.take_add_one, h]
  simp

set_option maxHeartbeats 1000000 in
theorem isReady_any (v : Value) (l : List (Int × ByteArray)) (slot : Int) (node : ByteArray) (w : World) (hv : RL w v l) :
    Calls Try.prog 19 #[v, .int .i64 slot, .string node] w fun e w' => e = .returned (.bool (isReady l slot node)) ∧ w = w' := by
  obtain ⟨p, cap, rfl, hl, hm, _, HC⟩ := hv.opened
  unfold maxLen at hm
  go_enter Try.func19, Try.ntmps19
  go_wp2
  go_loop [7] (fun i => ∃ (k : Nat), k ≤ l.length ∧ i = .int .i64 k ∧ isReady (l.take k) slot node = false) (fun i => l.length - (intOf i).toNat)
  case atStart => exact ⟨0, by omega, rfl, by simp [isReady]⟩
  case round =>
    obtain ⟨k, hk, rfl, hno⟩ := hrel
    have HNO : Hid (isReady (l.take k) slot node = false) := hno
    clear hno
    by_cases hlt : k < l.length
    · obtain ⟨x, hx⟩ : ∃ x, l[k]? = some x := ⟨_, List.getElem?_eq_getElem hlt⟩
      obtain ⟨b, off, rfl, c1, c2, _⟩ := HC.out k x hx
      have HT : Hid (isReady (l.take (k + 1)) slot node = (x.1 == slot && x.2.toList == node.toList)) := by
        have := isReady_take_succ hx slot node
        rw [HNO.out] at this
        simpa [Hid] using this
      have HLE : Hid (isReady (l.take (k + 1)) slot node = true → isReady l slot node = true) := by
        unfold Hid isReady
        rw [List.any_eq_true, List.any_eq_true]
        rintro ⟨y, hy, hh⟩
        exact ⟨y, List.mem_of_mem_take hy, hh⟩
      obtain ⟨xs, xn⟩ := x
      clear hx
      cases h1 : (xs == slot)
      · go_wp2
        go_round
        case rel => exact ⟨k + 1, by omega, by go_num, by rw [HT.out]; simp [h1]⟩
        case measure => simp [intOf]; omega
      · cases h2 : (xn.toList == node.toList)
        · go_wp2
          go_round
          case rel => exact ⟨k + 1, by omega, by go_num, by rw [HT.out]; simp [h1, h2]⟩
          case measure => simp [intOf]; omega
        · go_wp2
          go_ret
          exact ⟨ret_bool (HLE.out (by rw [HT.out]; simp [h1, h2])).symm, rfl⟩
    · have hkn : k = l.length := by omega
      have HE : Hid (isReady l slot node = false) := by have := HNO.out; rwa [hkn, List.take_length] at this
      go_wp2
      go_ret
      exact ⟨ret_bool HE.out.symm, rfl⟩

/-- zzAdd: either it says 'over', or the number is within the limit. -/
def AddRes (total x m : Int) (w : World) (e : Ending) (w' : World) : Prop :=
  (e = .returned (.tuple #[.int .i64 0, .bool true]) ∧ w = w') ∨ ∃ (n : Int), e = .returned (.tuple #[.int .i64 n, .bool false]) ∧ w = w' ∧ total + x * m ≤ n ∧ n ≤ 1048576

set_option maxHeartbeats 1000000 in
theorem add_any (total x m : Int) (w : World) (hm : 1 ≤ m) (hm2 : m ≤ 64) (hx0 : 0 ≤ x) (ht0 : 0 ≤ total) (ht1 : total ≤ 1048576) :
    Calls Try.prog 28 #[.int .i64 total, .int .i64 x, .int .i64 m] w (AddRes total x m w) := by
  go_enter Try.func28, Try.ntmps28
  go_wp2
  · go_ret2
    exact .inl ⟨rfl, rfl⟩
  · rename_i _ h
    have h1 : x * m ≤ 1048576 - total := Int.mul_le_of_le_ediv (by omega) h.2
    have h0 : 0 ≤ x * m := Int.mul_nonneg hx0 (by omega)
    have e1 : wrap64 (x * m) = x * m := by rw [IntWalk.wrap64_in] <;> omega
    have e2 : wrap64 (total + x * m) = total + x * m := by rw [IntWalk.wrap64_in] <;> omega
    rw [e1, e2]
    go_ret2
    exact .inr ⟨total + x * m, rfl, rfl, by omega, by omega⟩

end Go.Proofs.Qxb6609165a
