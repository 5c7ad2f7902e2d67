/-
  notReady and MarkReady.
-/
import Derived.Test.Qxb6609165aDel
namespace Go.Proofs.Qxb6609165a
open Go.RowKit

set_option maxHeartbeats 1000000 in
theorem notReady_any (b o : Nat) (v : Value) (c : List (ByteArray × Int)) (m : Nat) (t : ByteArray) (ts : Int) (w : World) (hcell : w.cell? ⟨b, o + 4, none⟩ = some v) (hv : NRL w v c) (ha : Asc c) (hm : c[m]? = some (t, ts)) (hc : c.length ≤ 1048576) :
    Calls Try.prog 38 #[.pointer (some ⟨b, o, none⟩), .string t] w (Gives (.tuple #[.int .i64 m, .bool true]) w) := by
  have H := search_any v c m t ts w hv ha hm hc
  clear hm ha
  go_enter Try.func38, Try.ntmps38
  go_wp2_with (go_at_call 44; refine H.mono ?_; rintro e w' ⟨rfl, hb⟩)
  go_ret2
  exact ⟨rfl, hb⟩

/-- Of what stood before, the cell at a0 alone is turned. -/
structure But (a0 : Addr) (w w' : World) : Prop where
  below : Below a0.block w w'
  cell : ∀ a : Addr, a.block < w.heap.size → a ≠ a0 → w'.cell? a = w.cell? a
  frozen : ∀ a : Addr, a.block < w.heap.size → w'.frozen? a = w.frozen? a
  obj : ∀ k, k < w.heap.size → k ≠ a0.block → w'.heap[k]? = w.heap[k]?

theorem But.of_below {a0 : Addr} {w w' : World} (h : Below w.heap.size w w') (ha : a0.block < w.heap.size) : But a0 w w' :=
  ⟨h.mono (Nat.le_of_lt ha), fun _ h1 _ => h.cell h1, fun _ h1 => h.frozen h1, fun _ h1 _ => h.block _ h1⟩

theorem But.set {a0 : Addr} {w w' : World} (h : But a0 w w') (u : Value) : But a0 w (w'.setCell a0 u) :=
  ⟨h.below.setCell (Nat.le_refl _) u, fun a h1 h2 => by rw [World.cell?_setCell_other _ _ _ _ (fun e => h2 e.symm)]; exact h.cell a h1 h2, fun a h1 => by rw [World.frozen?_setCell]; exact h.frozen a h1, fun k h1 h2 => by rw [Below.heap_setCell _ _ _ _ h2]; exact h.obj k h1 h2⟩

/-- The entries of a slot as rows. -/
def nrRows (c : List (ByteArray × Int)) : List (List Value) := c.map fun x => [.string x.1, .int .u64 x.2]

theorem nrRows_len (c : List (ByteArray × Int)) : ∀ r ∈ nrRows c, r.length = 2 := by
  intro r hr
  obtain ⟨x, _, rfl⟩ := List.mem_map.mp hr
  rfl

theorem nrRows_one (c : List (ByteArray × Int)) : ∀ u ∈ (nrRows c).flatten, u.oneCell' = true := by
  intro u hu
  obtain ⟨r, hr, hu⟩ := List.mem_flatten.mp hu
  obtain ⟨x, _, rfl⟩ := List.mem_map.mp hr
  simp at hu
  rcases hu with rfl | rfl <;> rfl

theorem nrRows_erase (c : List (ByteArray × Int)) (m : Nat) : (nrRows c).eraseIdx m = nrRows (c.eraseIdx m) := by
  unfold nrRows
  induction c generalizing m with
  | nil => simp
  | cons x c ih => cases m with
    | zero => simp
    | succ m => simpa using ih m

theorem Sl.set {sz : Nat} {w : World} {g off n cap : Nat} {l : List (List Value)} (h : Sl sz w (.slice (some ⟨g, off, none⟩) n cap) l) {a : Addr} (hg : g ≠ a.block) (u : Value) : Sl sz (w.setCell a u) (.slice (some ⟨g, off, none⟩) n cap) l := by
  obtain ⟨p, cp, e, h1, h2, h3, h4⟩ := h
  refine ⟨p, cp, e, h1, h2, h3, fun hp => ?_⟩
  obtain ⟨b, o, e', hc⟩ := h4 hp
  refine ⟨b, o, e', fun i r hr j x hx => ?_⟩
  injection e with e1
  rw [← e1] at e'
  injection e' with e'
  injection e' with e2 e3
  subst e2 e3
  rw [World.cell?_setCell_other _ _ _ _ (fun e => hg (by rw [e]))]
  exact hc i r hr j x hx

theorem nrRows_length (c : List (ByteArray × Int)) : (nrRows c).length = c.length := by unfold nrRows; simp

theorem cell_lt {w : World} {a : Addr} {v : Value} (h : w.cell? a = some v) : a.block < w.heap.size := by
  rcases Nat.lt_or_ge a.block w.heap.size with h' | h'
  · exact h'
  · simp [World.cell?, Array.getElem?_eq_none h'] at h

theorem frozen_later {w w' : World} {a : Addr} {f : Bool} (hb : Below w.heap.size w w') (ha : a.block < w.heap.size) (h : w.frozen? a = f) : w'.frozen? a = f := by rw [hb.frozen ha, h]

theorem own_form {w : World} {base : Nat} {e : TypeId} {sz : Nat} {v : Value} {n : Nat} {xs : List Value} (h : w.ownsRow base e sz v n xs) (hn : 0 < n) : ∃ g cap, v = .slice (some ⟨g, 0, none⟩) n cap ∧ base ≤ g ∧ n ≤ cap ∧ cap ≤ maxLen := by
  obtain ⟨_, ⟨_, h0⟩ | ⟨g, cap, _, rfl, hg, _, hc, hm, _⟩⟩ := h
  · omega
  · exact ⟨g, cap, rfl, hg, hc, hm⟩

/-- What MarkReady leaves. -/
def Marked (b o : Nat) (c : List (ByteArray × Int)) (w : World) (e : Ending) (w' : World) : Prop :=
  e = .returned (.tuple #[]) ∧ But ⟨b, o + 4, none⟩ w w' ∧ ∃ v', w'.cell? ⟨b, o + 4, none⟩ = some v' ∧ NRL w' v' c ∧ (v' = .slice none 0 0 ↔ c = []) ∧ (∀ p n cp, v' = .slice (some p) n cp → w.heap.size ≤ p.block)

set_option maxHeartbeats 1000000 in
theorem markReady_any (b o : Nat) (v : Value) (c : List (ByteArray × Int)) (m : Nat) (t : ByteArray) (ts : Int) (w : World) (hcell : w.cell? ⟨b, o + 4, none⟩ = some v) (hfz : w.frozen? ⟨b, o + 4, none⟩ = false) (hv : NRL w v c) (ha : Asc c) (hm : c[m]? = some (t, ts)) (hc : c.length ≤ 1048576) :
    Calls Try.prog 34 #[.pointer (some ⟨b, o, none⟩), .string t] w (Marked b o (c.eraseIdx m) w) := by
  have H := notReady_any b o v c m t ts w hcell hv ha hm hc
  have hml : m < c.length := (List.getElem?_eq_some_iff.mp hm).1
  obtain ⟨q, hq⟩ : ∃ q, c.length = m + 1 + q := ⟨c.length - (m + 1), by omega⟩
  clear hm ha
  go_enter Try.func34, Try.ntmps34
  go_wp2_with fail
  have hbw : b < w.heap.size := cell_lt hcell
  go_wp2_with (first
    | (go_at_call 38; refine H.mono ?_; rintro e w1 ⟨rfl, hb1⟩; have hcell1 := cell_later hb1 hcell; have hs1 : Sl 2 w1 v (nrRows c) := (hv.later hb1).1)
    | (go_at_call 40; refine (clone_any v (nrRows c) w1 hs1 (nrRows_len c) (nrRows_one c) (by rw [nrRows_length]; omega) (by rw [nrRows_length]; omega)).mono ?_; rintro e w2 ⟨v2, rfl, hb2, hown⟩; rw [nrRows_length, hq] at hown; obtain ⟨g, cap, rfl, hg, hcap, hcm⟩ := own_form hown (by omega))
    | (go_at_call 39; refine (delete_any g cap m q w1.heap.size (nrRows c) w2 hg hown (by rw [nrRows_length, hq]) (nrRows_len c) (nrRows_one c) (by omega) hcap hcm).mono ?_; rintro e w3 ⟨rfl, hb3, hsl⟩; have hb13 := hb2.trans hb3; have hbw3 := hb1.trans (hb13.mono hb1.size); have hcell3 := cell_later hbw3 hcell; have hfz3 := frozen_later hbw3 hbw hfz))
  · rename_i h0
    have h00 : m = 0 ∧ q = 0 := by
      have : (m : Int) + q = 0 := by simpa using h0
      omega
    have hnil : c.eraseIdx m = [] := List.eq_nil_of_length_eq_zero (by rw [List.length_eraseIdx_of_lt hml]; omega)
    go_end0
    refine ⟨rfl, ((But.of_below hbw3 hbw).set _).set _, .slice none 0 0, ?_, ?_, by simp [hnil], fun p n cp h => by simp at h⟩
    · exact World.cell?_setCell_same _ _ _ (World.cell?_setCell_same _ _ _ hcell3)
    · rw [hnil]
      exact ⟨⟨none, 0, rfl, by simp, by unfold maxLen; omega, fun _ => ⟨rfl, rfl⟩, fun h => by simp at h⟩, by simp⟩
  · rename_i h0
    have h00 : m + q ≠ 0 := by
      intro hh
      have : ((m : Int) + q == 0) = true := by simp; omega
      rw [this] at h0
      simp at h0
    have hnl : (c.eraseIdx m).length = m + q := by rw [List.length_eraseIdx_of_lt hml]; omega
    go_end0
    refine ⟨rfl, (But.of_below hbw3 hbw).set _, _, World.cell?_setCell_same _ _ _ hcell3, ⟨?_, ?_⟩, ⟨fun h => by simp at h, fun hh => by rw [hh] at hnl; simp at hnl; omega⟩, fun p n cp h => ?_⟩
    · rw [nrRows_erase] at hsl
      exact hsl.set (a := ⟨b, o + 4, none⟩) (by have := hb1.size; show g ≠ b; omega) _
    · exact fun x hx => hv.2 x (List.mem_of_mem_eraseIdx hx)
    · injection h with h1
      injection h1 with h1
      have := hb1.size
      rw [← h1]
      show w.heap.size ≤ g
      omega

end Go.Proofs.Qxb6609165a
