/-
  A capped writer of either kind: Write, bytes; zzCloneBytes; the second law's guard.
-/
import Derived.Test.Qxb6612609aDoorLike
import Derived.Test.Qxb6612609aDoorLaw1
import Derived.Laws.CopyOwn
namespace Go.Proofs.Qxb6612609aDoor
open Go.RowKit

theorem Cap.kept {w w' : World} {B0 : Nat} {F F' : Nat → Prop} {B : Nat} {limit : Int} {c : List UInt8} {over : Bool} (h : Cap w B0 F B limit c over) (hk : Kept F w w') (hs : ∀ k, F k → F' k) : Cap w' B0 F' B limit c over := by
  rcases h with ⟨ps, h1, h2⟩ | ⟨l, m, lb, lc, h1, h2, h3⟩
  · exact .inl ⟨ps, h1.kept hk hs, h2⟩
  · exact .inr ⟨l, m, lb, lc, h1.kept hk hs, h2, h3⟩

theorem write_either (hkeep : KeepSaid) (B0 B : Nat) (F Fp : Nat → Prop) (limit : Int) (c : List UInt8) (over : Bool) (pv : Value) (p : List UInt8) (w : World)
    (hc : Cap w B0 F B limit c over) (hp : Held w Fp pv p) (hFp : ∀ b, Fp b → b < w.heap.size ∧ ¬ F b) (hF : ∀ k, F k → B0 ≤ k ∧ k < w.heap.size)
    (hlim : limit ≤ 9223372036854775807) (hsm : c.length + p.length ≤ 1048576) (hB0 : B0 ≤ w.heap.size) :
    Calls Tryd.prog 13 #[.pointer (some ⟨B, 0, none⟩), pv] w fun e w' => e = .returned (.tuple #[.int .i64 (p.length : Int), .nilIface]) ∧
      Cap w' B0 (Fr F w w') B limit (stepC limit c over p) (stepB limit c over p) ∧ Only F w w' := by
  rcases hc with ⟨ps, h1, rfl⟩ | ⟨l, m, lb, lc, h1, rfl, h3⟩
  · refine (write_plain hkeep B0 B F Fp limit ps over pv p w h1 hp hFp hlim (by omega) hB0).mono ?_
    rintro e w' ⟨he, ps', a, b, d⟩
    exact ⟨he, .inl ⟨ps', a, b⟩, d⟩
  · refine (write_like hkeep B0 B F Fp limit l m over lb lc pv p w h1 hp hFp hF hlim (by omega) hB0 h3).mono ?_
    rintro e w' ⟨he, a, d⟩
    exact ⟨he, a, d⟩

set_option maxRecDepth 100000 in
set_option maxHeartbeats 1000000 in
theorem capWrite_either (hkeep : KeepSaid) (B0 B : Nat) (F Fp : Nat → Prop) (limit : Int) (c : List UInt8) (over : Bool) (pv : Value) (p : List UInt8) (w : World)
    (hc : Cap w B0 F B limit c over) (hp : Held w Fp pv p) (hFp : ∀ b, Fp b → b < w.heap.size ∧ ¬ F b) (hF : ∀ k, F k → B0 ≤ k ∧ k < w.heap.size)
    (hlim : limit ≤ 9223372036854775807) (hsm : c.length + p.length ≤ 1048576) (hB0 : B0 ≤ w.heap.size) :
    Calls Tryd.prog 8 #[.pointer (some ⟨B, 0, none⟩), pv] w fun e w' => e = .returned (.tuple #[.int .i64 (p.length : Int), .nilIface]) ∧
      Cap w' B0 (Fr F w w') B limit (stepC limit c over p) (stepB limit c over p) ∧ Only F w w' := by
  have HW := write_either hkeep B0 B F Fp limit c over pv p w hc hp hFp hF hlim hsm hB0
  obtain ⟨pp, cp, rfl, _⟩ := hp
  clear hF hFp hc
  go_enter Tryd.func8, Tryd.ntmps8
  go_wp2_with fail
  refine HW.mono ?_
  rintro e w' ⟨rfl, h1, h2⟩
  have HH : Hid (Cap w' B0 (Fr F w w') B limit (stepC limit c over p) (stepB limit c over p) ∧ Only F w w') := ⟨h1, h2⟩
  clear h1 h2 HW
  go_wp2
  go_ret2
  exact ⟨rfl, HH.out⟩

set_option maxRecDepth 100000 in
set_option maxHeartbeats 1000000 in
theorem bytes_like (B0 B : Nat) (F : Nat → Prop) (limit : Int) (l : List UInt8) (m : Nat) (over : Bool) (lb lc : Nat) (w : World) (hc : CapL w B0 F B limit l m over lb lc) :
    Calls Tryd.prog 14 #[.pointer (some ⟨B, 0, none⟩)] w fun e w' => ∃ v, e = .returned v ∧ Held w' (fun _ => True) v (l.take m) ∧ Below w.heap.size w w' := by
  have hblk := hc.blk
  have hmle := hc.le
  have hcl : l.length ≤ lc ∧ lc ≤ maxLen := by
    rcases hc.text.2 with ⟨h', _⟩ | ⟨g', cap', cur, h', _, _, h1, h2, _⟩
    · cases h'
    · simp only [Value.slice.injEq] at h'
      obtain ⟨_, _, rfl⟩ := h'
      exact ⟨h1, h2⟩
  have HH : Hid (Held w (fun _ => True) (.slice (some ⟨lb, 0, none⟩) m lc) (l.take m)) := by
    have htl : (l.take m).length = m := by simp; omega
    refine ⟨_, lc, by rw [htl], by rw [htl]; omega, hcl.2, (fun h => by cases h), fun hp => ⟨lb, 0, rfl, trivial, fun i x hx => ?_⟩⟩
    have hi : i < m := by have := (List.getElem?_eq_some_iff.1 hx).1; omega
    rw [List.getElem?_take, if_pos hi] at hx
    rw [Nat.zero_add, hc.text.cellAt i (by omega)]
    simp [bytesV, hx]
  have c2 : w.cell? ⟨B, 2, none⟩ = some (.slice (some ⟨lb, 0, none⟩) l.length lc) := by rw [cell_of_row _ _ _ _ _ _ hblk]; rfl
  have c4 : w.cell? ⟨B, 4, none⟩ = some (.int .i64 m) := by rw [cell_of_row _ _ _ _ _ _ hblk]; rfl
  have i0 : (0 : Int) ≤ (m : Int) := by omega
  have i1 : (m : Int) ≤ (lc : Int) := by omega
  obtain ⟨hcl1, hcl2⟩ := hcl
  unfold maxLen at hcl2
  clear hc hblk
  generalize l.length = ln at *
  have hln0 : ∀ W : World, (binOp .neq 27 (.slice (some ⟨lb, 0, none⟩) ln lc) (.slice none 0 0)).run Tryd.prog W = .ok (.bool true) W := fun W => run_neq_slice_nil_any W 27 5 _ _ _ _ _ Tryd.underlying27
  go_enter Tryd.func14, Tryd.ntmps14
  go_wp2_with fail
  go_quiet (fail)
  go_wp2
  go_ret
  exact ⟨_, rfl, HH.out.drewN _, below_drewN (Below.refl _ _) _⟩

set_option maxHeartbeats 1000000 in
theorem bytesOf_either (B0 B : Nat) (F : Nat → Prop) (limit : Int) (c : List UInt8) (over : Bool) (w : World) (hc : Cap w B0 F B limit c over) (hsm : c.length ≤ 4194304) :
    Calls Tryd.prog 10 #[.pointer (some ⟨B, 0, none⟩)] w fun e w' => ∃ v, e = .returned v ∧ Held w' (fun _ => True) v c ∧ Below w.heap.size w w' := by
  have HW : Calls Tryd.prog 14 #[.pointer (some ⟨B, 0, none⟩)] w fun e w' => ∃ v, e = .returned v ∧ Held w' (fun _ => True) v c ∧ Below w.heap.size w w' := by
    rcases hc with ⟨ps, h1, rfl⟩ | ⟨l, m, lb, lc, h1, rfl, h3⟩
    · exact bytes_plain B0 B F limit ps over w h1 hsm
    · exact bytes_like B0 B F limit l m over lb lc w h1
  clear hc
  go_enter Tryd.func10, Tryd.ntmps10
  go_wp2_with fail
  refine HW.mono ?_
  rintro e w' ⟨v, rfl, hh, hb⟩
  have HH : Hid (Held w' (fun _ => True) v c ∧ Below w.heap.size w w') := ⟨hh, hb⟩
  clear hh hb HW
  go_wp2
  go_ret
  exact ⟨_, rfl, HH.out⟩

/-- What zzCloneBytes leaves: nil for nil; else the same bytes in a new block. -/
def Cloned (p : Option Addr) (l : List UInt8) (w : World) (e : Ending) (w' : World) : Prop :=
  (p = none ∧ e = .returned (.slice none 0 0) ∧ w = w') ∨
  (p ≠ none ∧ e = .returned (.slice (some ⟨w.heap.size, 0, none⟩) l.length l.length) ∧ w'.ownsRow w.heap.size 5 1 (.slice (some ⟨w.heap.size, 0, none⟩) l.length l.length) l.length (bytesV l) ∧ Below w.heap.size w w')

set_option maxHeartbeats 1000000 in
theorem clone_any (F : Nat → Prop) (p : Option Addr) (c : Nat) (l : List UInt8) (w : World) (hp : Held w F (.slice p l.length c) l) (hsm : l.length ≤ 1048576) :
    Calls Tryd.prog 12 #[.slice p l.length c] w (Cloned p l w) := by
  obtain ⟨i5, hi5, hz5, hs5, hb5⟩ := info_parts info5
  cases p with
  | none =>
    have hn0 : ∀ W : World, (binOp .eql 27 (.slice none l.length c) (.slice none 0 0)).run Tryd.prog W = .ok (.bool true) W := fun W => Lib.run_eql_slice_nil W 27 5 _ _ _ _ _ Tryd.underlying27
    clear hp
    go_enter Tryd.func12, Tryd.ntmps12
    go_wp2
    go_ret
    exact .inl ⟨rfl, rfl, rfl⟩
  | some ad =>
    have hn0 : ∀ W : World, (binOp .eql 27 (.slice (some ad) l.length c) (.slice none 0 0)).run Tryd.prog W = .ok (.bool false) W := fun W => Lib.run_eql_slice_nil W 27 5 _ _ _ _ _ Tryd.underlying27
    have HS : Hid (∀ j u, (bytesV l)[j]? = some u → w.cell? (ad.add j) = some u) := by
      rcases src_of_held hp rfl with ⟨h, _⟩ | ⟨ad', h, hc⟩
      · cases h
      · cases h; exact hc
    have hmk : ∀ W : World, (Instr.makeSlice 27 (.int .i64 (l.length : Int)) (.int .i64 (l.length : Int))).run Tryd.prog W = .ok (.slice (some ⟨W.heap.size, 0, none⟩) l.length l.length) (W.alloc (.cells (zeroes l.length) 5)) := fun W => by
      have := run_make (P := Tryd.prog) W 27 5 i5 _ Tryd.underlying27 hi5 hz5 .i64 .i64 (l.length : Int) (l.length : Int) (by omega) (by omega) (by rw [hb5]; omega) (by omega)
      rw [this]
      simp [zeroes, hs5, Value.cells]
    have hsz : (Tryd.prog.info? 5).map (·.size) = some 1 := by rw [hi5]; simp [hs5]
    have HZ : Hid ((w.alloc (.cells (zeroes l.length) 5)).heap[w.heap.size]? = some (.cells (zeroes l.length).toList.toArray 5 (0, 0))) := heap_alloc_new w _
    have HB : Hid (Below w.heap.size w (w.alloc (.cells (zeroes l.length) 5))) := (Below.refl _ _).alloc (Nat.le_refl _) _
    have HL : Hid ((bytesV l).length = Nat.min l.length l.length ∧ 0 + (bytesV l).length ≤ (zeroes l.length).toList.length ∧ (0 < (bytesV l).length → some (⟨w.heap.size, 0, none⟩ : Addr) = some ⟨w.heap.size, 0, none⟩ ∧ ∃ a, some ad = some a ∧ ∀ j v, (bytesV l)[j]? = some v → (w.alloc (.cells (zeroes l.length) 5)).cell? (a.add j) = some v)) :=
      ⟨by rw [bytesV_length]; exact (Nat.min_self _).symm, by have := zeroes_size l.length; simp [bytesV_length, this], fun _ => ⟨rfl, ad, rfl, fun j v hv => cell1 (HS.out j v hv) _⟩⟩
    have HSP : Hid (splice (zeroes l.length).toList 0 (bytesV l) = bytesV l) := by
      unfold Hid splice
      rw [bytesV_length, List.drop_of_length_le (by rw [Array.length_toList, zeroes_size]; omega)]
      simp
    clear hp
    generalize hxs : bytesV l = xs at *
    have HX : Hid (bytesV l = xs) := hxs
    clear hxs
    have H1 : Hid (∀ u ∈ xs, u.oneCell' = true) := by rw [← HX.out]; exact bytesV_one
    go_enter Tryd.func12, Tryd.ntmps12
    go_wp2_with (refine wpList_copy_splice rfl _ _ 27 27 rfl 5 Tryd.underlying27 hsz _ _ _ _ _ _ rfl rfl w.heap.size 0 (zeroes l.length).toList 5 HZ.out xs HL.out.1 HL.out.2.2 HL.out.2.1 H1.out w.heap.size w HB.out (Nat.le_refl _) ?_; intro w2 HG2 hB2)
    go_ret
    refine .inr ⟨by simp, rfl, ?_, hB2⟩
    have hg := HG2.out
    rw [HSP.out] at hg
    exact ⟨by rw [bytesV_length]; omega, .inr ⟨w.heap.size, l.length, xs.toArray, rfl, Nat.le_refl _, hg, Nat.le_refl _, by unfold maxLen; omega, by rw [← HX.out]; simp [bytesV_length], by rw [← HX.out]; simp [bytesV_length, List.take_of_length_le]⟩⟩

set_option maxHeartbeats 1000000 in
theorem bytesLike_any (limit : Int) (lk : Option Addr) (ll lc : Nat) (a : Option Addr) (n c B : Nat) (ls : List (List UInt8)) (w : World) (hn : ls.length = n) (ha : Chunks w B a ls) (ml : ll ≤ maxLen) (mn : n ≤ maxLen) :
    Calls Tryd.prog 11 #[.int .i64 limit, .slice lk ll lc, .slice a n c] w (SomeBool True w) := by
  unfold maxLen at mn ml
  go_enter Tryd.func11, Tryd.ntmps11
  go_wp2
  · go_ret
    exact ⟨_, rfl, rfl, fun _ => trivial⟩
  · go_ret
    exact ⟨_, rfl, rfl, fun _ => trivial⟩
  · go_ret
    exact ⟨_, rfl, rfl, fun _ => trivial⟩
  go_loop [7, 8] (fun s i => ∃ (k : Nat) (z : Int), k ≤ n ∧ i = .int .i64 k ∧ s = .int .i64 z ∧ 0 ≤ z ∧ z ≤ 1048576) (fun _ i => n - (intOf i).toNat)
  case atStart => exact ⟨0, _, by omega, rfl, rfl, by omega, by omega⟩
  case round =>
    obtain ⟨k, z, hk, rfl, rfl, hz0, hz1⟩ := hrel
    by_cases hlt : k < n
    · obtain ⟨pb, po, v, l, rfl, hB, hcell, hl, p, cp, rfl, h1, h2, _⟩ := ha k (by omega)
      unfold maxLen at h2
      clear ha hl
      go_wp2
      · go_ret
        exact ⟨_, rfl, rfl, fun _ => trivial⟩
      · go_ret
        exact ⟨_, rfl, rfl, fun _ => trivial⟩
      · go_round
        case rel => exact ⟨k + 1, _, by omega, by go_num, rfl, by omega, by omega⟩
        case measure => simp [intOf]; omega
    · go_wp2
      go_ret
      exact ⟨_, rfl, rfl, fun _ => trivial⟩

end Go.Proofs.Qxb6612609aDoor
