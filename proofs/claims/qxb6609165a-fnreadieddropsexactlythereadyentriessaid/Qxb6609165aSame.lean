/-
  zzSameStrings, zzSameAddrs, zzSameNotReady, zzFilteredIs.
-/
import Derived.Test.Qxb6609165aTwo
namespace Go.Proofs.Qxb6609165a
open Go.RowKit

theorem nil38 (w : World) (a : Option Addr) (n c : Nat) : (binOp .eql 38 (.slice a n c) (.slice none 0 0)).run Try.prog w = .ok (.bool a.isNone) w := Lib.run_eql_slice_nil w 38 9 a n c 0 0 Try.underlying38
theorem nil31 (w : World) (a : Option Addr) (n c : Nat) : (binOp .eql 31 (.slice a n c) (.slice none 0 0)).run Try.prog w = .ok (.bool a.isNone) w := Lib.run_eql_slice_nil w 31 36 a n c 0 0 Try.underlying31
theorem nil24 (w : World) (a : Option Addr) (n c : Nat) : (binOp .eql 24 (.slice a n c) (.slice none 0 0)).run Try.prog w = .ok (.bool a.isNone) w := Lib.run_eql_slice_nil w 24 66 a n c 0 0 Try.underlying24
theorem nil39 (w : World) (a : Option Addr) (n c : Nat) : (binOp .eql 39 (.slice a n c) (.slice none 0 0)).run Try.prog w = .ok (.bool a.isNone) w := Lib.run_eql_slice_nil w 39 53 a n c 0 0 Try.underlying39

/-- It says true, and only draws. -/
def Quietly (w : World) (e : Ending) (w' : World) : Prop := e = .returned (.bool true) ∧ ∃ m, w' = w.drewN m

set_option maxRecDepth 50000 in
set_option maxHeartbeats 2000000 in
theorem sameStrings_any (v : Value) (l : List ByteArray) (w : World) (hv : FL w v l) : Calls Try.prog 21 #[v, v] w (Quietly w) := by
  obtain ⟨p, cap, rfl, hl, hm, -, HC⟩ := hv.opened
  clear hv
  unfold maxLen at hm
  have q38 := nil38
  go_enter Try.func21, Try.ntmps21
  rcases p with _ | a0
  all_goals
    go_wp2
    go_loopw [5] (fun iv wr => (∃ m, wr = w.drewN m) ∧ ∃ (i : Nat), i ≤ l.length ∧ iv = .int .i64 i) (fun iv _ => l.length - (intOf iv).toNat)
    case atStart => exact ⟨⟨0, rfl⟩, 0, by omega, rfl⟩
    case round =>
      obtain ⟨⟨m, hm0⟩, i, hi, rfl⟩ := hrel
      have HB : Hid (Below w.heap.size w wr) := by rw [hm0]; exact below_drewN (Below.refl _ _) m
      have HM : Hid (wr = w.drewN m) := hm0
      clear hm0
      by_cases hlt : i < l.length
      · obtain ⟨x, hx⟩ : ∃ x, l[i]? = some x := ⟨_, List.getElem?_eq_getElem hlt⟩
        obtain ⟨b, off, e, c0, -⟩ := HC.out i x hx
        cases e <;>
            (replace c0 := cell_later HB.out c0
             clear hx
             go_wp2_with fail
             go_quiet (fail)
             have hbd : ∃ m, wr.drewN nq = w.drewN m := ⟨m + nq, by rw [HM.out, World.drewN_drewN]⟩
             generalize wr.drewN nq = w5 at *
             go_wp2
             go_roundw
             case rel => exact ⟨hbd, i + 1, by omega, by go_num⟩
             case measure => simp [intOf]; omega)
      · go_wp2
        go_ret
        exact ⟨rfl, m, HM.out⟩

set_option maxRecDepth 50000 in
set_option maxHeartbeats 2000000 in
theorem sameNotReady_any (u v : Value) (l : List (ByteArray × Int)) (w : World) (hu : NRL w u l) (hv : NRL w v l) (hnil : u = .slice none 0 0 ↔ v = .slice none 0 0) : Calls Try.prog 23 #[u, v] w (Quietly w) := by
  obtain ⟨p, cap, rfl, hl, hm, hz, HC⟩ := hu.opened
  obtain ⟨p', cap', rfl, hl', hm', hz', HC'⟩ := hv.opened
  have hpn : (p = none ∧ p' = none) ∨ ∃ x x', p = some x ∧ p' = some x' := by
    rcases p with _ | x
    · obtain ⟨rfl, rfl⟩ := hz rfl
      have := hnil.mp rfl
      injection this with h1
      exact .inl ⟨rfl, h1⟩
    · rcases p' with _ | x'
      · obtain ⟨rfl, rfl⟩ := hz' rfl
        have := hnil.mpr rfl
        injection this with h1
        cases h1
      · exact .inr ⟨x, x', rfl, rfl⟩
  clear hu hv hz hz' hnil
  unfold maxLen at hm hm'
  have q58 := nil58
  have q39 := nil39
  go_enter Try.func23, Try.ntmps23
  rcases hpn with ⟨rfl, rfl⟩ | ⟨x, x', rfl, rfl⟩
  all_goals
    go_wp2
    go_loopw [5] (fun iv wr => (∃ m, wr = w.drewN m) ∧ ∃ (i : Nat), i ≤ l.length ∧ iv = .int .i64 i) (fun iv _ => l.length - (intOf iv).toNat)
    case atStart => exact ⟨⟨0, rfl⟩, 0, by omega, rfl⟩
    case round =>
      obtain ⟨⟨m, hm0⟩, i, hi, rfl⟩ := hrel
      have HB : Hid (Below w.heap.size w wr) := by rw [hm0]; exact below_drewN (Below.refl _ _) m
      have HM : Hid (wr = w.drewN m) := hm0
      clear hm0
      by_cases hlt : i < l.length
      · obtain ⟨xa, xs, hx⟩ := get_nr hlt
        obtain ⟨b, off, e, c0, c1, -⟩ := HC.out i _ hx
        obtain ⟨b', off', e', c0', c1', -⟩ := HC'.out i _ hx
        cases e <;>
            (cases e'
             replace c0 := cell_later HB.out c0
             replace c1 := cell_later HB.out c1
             replace c0' := cell_later HB.out c0'
             replace c1' := cell_later HB.out c1'
             dsimp only at c0 c1 c0' c1'
             clear hx
             go_wp2_with fail
             go_quiet (fail)
             have hbd : ∃ m, wr.drewN nq = w.drewN m := ⟨m + nq, by rw [HM.out, World.drewN_drewN]⟩
             generalize wr.drewN nq = w5 at *
             go_wp2
             go_roundw
             case rel => exact ⟨hbd, i + 1, by omega, by go_num⟩
             case measure => simp [intOf]; omega)
      · go_wp2
        go_ret
        exact ⟨rfl, m, HM.out⟩

set_option maxRecDepth 50000 in
set_option maxHeartbeats 2000000 in
theorem sameAddrs_any (u v : Value) (l : List (ByteArray × ByteArray)) (w : World) (hu : AL w u l) (hv : AL w v l) (hnil : u = .slice none 0 0 ↔ v = .slice none 0 0) : Calls Try.prog 20 #[u, v] w (Quietly w) := by
  obtain ⟨p, cap, rfl, hl, hm, hz, HC⟩ := hu.opened
  obtain ⟨p', cap', rfl, hl', hm', hz', HC'⟩ := hv.opened
  have hpn : (p = none ∧ p' = none) ∨ ∃ x x', p = some x ∧ p' = some x' := by
    rcases p with _ | x
    · obtain ⟨rfl, rfl⟩ := hz rfl
      have := hnil.mp rfl
      injection this with h1
      exact .inl ⟨rfl, h1⟩
    · rcases p' with _ | x'
      · obtain ⟨rfl, rfl⟩ := hz' rfl
        have := hnil.mpr rfl
        injection this with h1
        cases h1
      · exact .inr ⟨x, x', rfl, rfl⟩
  clear hu hv hz hz' hnil
  unfold maxLen at hm hm'
  have q31 := nil31
  have q24 := nil24
  go_enter Try.func20, Try.ntmps20
  rcases hpn with ⟨rfl, rfl⟩ | ⟨x, x', rfl, rfl⟩
  all_goals
    go_wp2
    go_loopw [5] (fun iv wr => (∃ m, wr = w.drewN m) ∧ ∃ (i : Nat), i ≤ l.length ∧ iv = .int .i64 i) (fun iv _ => l.length - (intOf iv).toNat)
    case atStart => exact ⟨⟨0, rfl⟩, 0, by omega, rfl⟩
    case round =>
      obtain ⟨⟨m, hm0⟩, i, hi, rfl⟩ := hrel
      have HB : Hid (Below w.heap.size w wr) := by rw [hm0]; exact below_drewN (Below.refl _ _) m
      have HM : Hid (wr = w.drewN m) := hm0
      clear hm0
      by_cases hlt : i < l.length
      · obtain ⟨⟨xa, xs⟩, hx⟩ : ∃ x, l[i]? = some x := ⟨_, List.getElem?_eq_getElem hlt⟩
        obtain ⟨b, off, e, c0, c1, -⟩ := HC.out i _ hx
        obtain ⟨b', off', e', c0', c1', -⟩ := HC'.out i _ hx
        cases e <;>
            (cases e'
             replace c0 := cell_later HB.out c0
             replace c1 := cell_later HB.out c1
             replace c0' := cell_later HB.out c0'
             replace c1' := cell_later HB.out c1'
             dsimp only at c0 c1 c0' c1'
             clear hx
             go_wp2_with fail
             go_quiet (fail)
             have hbd : ∃ m, wr.drewN nq = w.drewN m := ⟨m + nq, by rw [HM.out, World.drewN_drewN]⟩
             generalize wr.drewN nq = w5 at *
             go_wp2
             go_roundw
             case rel => exact ⟨hbd, i + 1, by omega, by go_num⟩
             case measure => simp [intOf]; omega)
      · go_wp2
        go_ret
        exact ⟨rfl, m, HM.out⟩

end Go.Proofs.Qxb6609165a
