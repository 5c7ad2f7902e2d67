/-
  The words in which the walks over the capped writer speak: bytes in memory, chunks that came in, and what a step leaves alone.
-/
import Derived.Test.Qxb6612609aDoorRows
import Derived.WalkKit
import Derived.WalkSpells
import Derived.WalkLawsBesides
namespace Go.Proofs.Qxb6612609aDoor
open Go.RowKit

theorem add_plain (b o i : Nat) : (⟨b, o, none⟩ : Addr).add i = ⟨b, o + i, none⟩ := by unfold Addr.add; split <;> simp_all

/-- The slice value v holds the bytes l in the world w; if there is a byte, its block meets F. -/
def Held (w : World) (F : Nat → Prop) (v : Value) (l : List UInt8) : Prop :=
  ∃ p cap, v = .slice p l.length cap ∧ l.length ≤ cap ∧ cap ≤ maxLen ∧ (p = none → l = []) ∧
    (0 < l.length → ∃ b off, p = some ⟨b, off, none⟩ ∧ F b ∧ ∀ i x, l[i]? = some x → w.cell? ⟨b, off + i, none⟩ = some (.int .u8 (x.toNat : Int)))

/-- A slice of byte slices that came in: element k holds the bytes of the k-th list; all of it lies below block B. -/
def Chunks (w : World) (B : Nat) (ao : Option Addr) (ls : List (List UInt8)) : Prop :=
  ∀ k, k < ls.length → ∃ b off v l, ao = some ⟨b, off, none⟩ ∧ b < B ∧ w.cell? ⟨b, off + k, none⟩ = some v ∧ ls[k]? = some l ∧ Held w (· < B) v l

/-- The lengths' sum. -/
def total (ls : List (List UInt8)) : Nat := (ls.map List.length).sum

theorem total_take_succ {ls : List (List UInt8)} {k : Nat} {l : List UInt8} (h : ls[k]? = some l) : total (ls.take (k + 1)) = total (ls.take k) + l.length := by
  unfold total
  rw [List.take_add_one, h]
  simp

theorem total_take_le (ls : List (List UInt8)) (k : Nat) : total (ls.take k) ≤ total ls := by
  have h : total ls = total (ls.take k) + total (ls.drop k) := by
    unfold total
    rw [← List.sum_append, ← List.map_append, List.take_append_drop]
  omega

theorem Held.below {w w' : World} {B : Nat} {v : Value} {l : List UInt8} (h : Held w (· < B) v l) (hb : Below B w w') : Held w' (· < B) v l := by
  obtain ⟨p, cap, rfl, h1, h2, h3, h4⟩ := h
  refine ⟨p, cap, rfl, h1, h2, h3, fun hl => ?_⟩
  obtain ⟨b, off, rfl, hF, hc⟩ := h4 hl
  exact ⟨b, off, rfl, hF, fun i x hx => (hb.cell (p := ⟨b, off + i, none⟩) hF).trans (hc i x hx)⟩

theorem Chunks.below {w w' : World} {B : Nat} {ao : Option Addr} {ls : List (List UInt8)} (h : Chunks w B ao ls) (hb : Below B w w') : Chunks w' B ao ls := by
  intro k hk
  obtain ⟨b, off, v, l, rfl, hB, hc, hl, hh⟩ := h k hk
  exact ⟨b, off, v, l, rfl, hB, (hb.cell (p := ⟨b, off + k, none⟩) hB).trans hc, hl, hh.below hb⟩

/-- The call answers some bool and turns nothing. -/
def SomeBool (q : Prop) (w : World) (e : Ending) (w' : World) : Prop := ∃ r : Bool, e = .returned (.bool r) ∧ w = w' ∧ (r = true → q)

set_option maxHeartbeats 1000000 in
theorem bytesKeeps_any (limit : Int) (a : Option Addr) (n c B : Nat) (ls : List (List UInt8)) (w : World) (hn : ls.length = n) (ha : Chunks w B a ls) (mn : n ≤ maxLen) :
    Calls Tryd.prog 5 #[.int .i64 limit, .slice a n c] w (SomeBool True w) := by
  unfold maxLen at mn
  go_enter Tryd.func5, Tryd.ntmps5
  go_wp2
  · go_ret
    exact ⟨_, rfl, rfl, fun _ => trivial⟩
  go_loop [5, 6] (fun s i => ∃ (k : Nat) (z : Int), k ≤ n ∧ i = .int .i64 k ∧ s = .int .i64 z ∧ 0 ≤ z ∧ z ≤ 1048576) (fun _ i => n - (intOf i).toNat)
  case atStart => exact ⟨0, _, by omega, rfl, rfl, by omega, by omega⟩
  case round =>
    obtain ⟨k, z, hk, rfl, rfl, hz0, hz1⟩ := hrel
    by_cases hlt : k < n
    · obtain ⟨pb, po, v, l, rfl, hB, hcell, hl, p, cp, rfl, h1, h2, _⟩ := ha k (by omega)
      unfold maxLen at h2
      clear ha hl
      go_wp2
      · go_ret
        exact ⟨_, rfl, rfl, fun _ => trivial⟩
      · go_ret
        exact ⟨_, rfl, rfl, fun _ => trivial⟩
      · go_round
        case rel => exact ⟨k + 1, _, by omega, by go_num, rfl, by omega, by omega⟩
        case measure => simp [intOf]; omega
    · go_wp2
      go_ret
      exact ⟨_, rfl, rfl, fun _ => trivial⟩

set_option maxHeartbeats 1000000 in
theorem chunksFit_any (lk : Option Addr) (ll lc : Nat) (a : Option Addr) (n c B : Nat) (ls : List (List UInt8)) (w : World) (hn : ls.length = n) (ha : Chunks w B a ls) (ml : ll ≤ 1048576) (mn : n ≤ 65536) :
    Calls Tryd.prog 6 #[.slice lk ll lc, .slice a n c] w (SomeBool (total ls ≤ 1048576) w) := by
  go_enter Tryd.func6, Tryd.ntmps6
  go_wp2
  · go_ret
    exact ⟨_, rfl, rfl, fun h => by cases h⟩
  go_loop [5, 6] (fun s i => ∃ (k : Nat) (z : Int), k ≤ n ∧ i = .int .i64 k ∧ s = .int .i64 z ∧ (total (ls.take k) : Int) ≤ z ∧ z ≤ 1048576) (fun _ i => n - (intOf i).toNat)
  case atStart => exact ⟨0, _, by omega, rfl, rfl, by simp [total]; omega, by omega⟩
  case round =>
    obtain ⟨k, z, hk, rfl, rfl, hz0, hz1⟩ := hrel
    by_cases hlt : k < n
    · obtain ⟨pb, po, v, l, rfl, hB, hcell, hl, p, cp, rfl, h1, h2, _⟩ := ha k (by omega)
      unfold maxLen at h2
      have HT : Hid (total (ls.take (k + 1)) = total (ls.take k) + l.length) := total_take_succ hl
      have hz2 : 0 ≤ z := by omega
      clear ha hl
      go_wp2
      · go_ret
        exact ⟨_, rfl, rfl, fun h => by cases h⟩
      · go_ret
        exact ⟨_, rfl, rfl, fun h => by cases h⟩
      · go_round
        case rel => exact ⟨k + 1, _, by omega, by go_num, rfl, by rw [HT.out]; omega, by omega⟩
        case measure => simp [intOf]; omega
    · go_wp2
      go_ret
      exact ⟨_, rfl, rfl, fun _ => by rw [List.take_of_length_le (by omega)] at hz0; omega⟩

end Go.Proofs.Qxb6612609aDoor
