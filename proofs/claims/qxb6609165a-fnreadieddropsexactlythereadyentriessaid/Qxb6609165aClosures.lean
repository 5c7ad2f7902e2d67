/-
  The closures that ask zzIsReady.
-/
import Derived.Test.Qxb6609165aReadied
import Derived.Sort.AtCall
namespace Go.Proofs.Qxb6609165a
open Go.RowKit

set_option maxHeartbeats 1000000 in
theorem ask25 (i : Nat) (a : ByteArray) (s : Int) (rb : Nat) (v : Value) (l : List (Int × ByteArray)) (w : World) (hc : w.cell? ⟨rb, 0, none⟩ = some v) (hv : RL w v l) :
    Calls Try.prog 25 (#[.int .i64 i, .agg #[.string a, .int .u64 s]] ++ #[.pointer (some ⟨rb, 0, none⟩)]) w (Gives (.bool (isReady l i a)) w) := by
  have hal : ∀ o, Below w.heap.size w (w.alloc o) := fun o => (Below.refl _ _).alloc (Nat.le_refl _) o
  have hc1 : ∀ o, (w.alloc o).cell? ⟨rb, 0, none⟩ = some v := fun o => cell_later (hal o) hc
  obtain ⟨p, cap, rfl, _⟩ := hv.opened
  rw [show (#[Value.int IntKind.i64 i, Value.agg #[Value.string a, Value.int IntKind.u64 s]] ++ #[Value.pointer (some ⟨rb, 0, none⟩)] : Array Value) = #[Value.int IntKind.i64 i, Value.agg #[Value.string a, Value.int IntKind.u64 s], Value.pointer (some ⟨rb, 0, none⟩)] from rfl]
  go_enter Try.func25, Try.ntmps25
  go_wp2_with (go_at_call 19; refine (isReady_any _ l _ _ _ (hv.later (hal _))).mono ?_; rintro e w' ⟨rfl, rfl⟩)
  go_ret
  exact ⟨rfl, hal _⟩

set_option maxHeartbeats 1000000 in
theorem ask26 (i : Nat) (a : ByteArray) (s : Int) (rb : Nat) (v : Value) (l : List (Int × ByteArray)) (w : World) (hc : w.cell? ⟨rb, 0, none⟩ = some v) (hv : RL w v l) :
    Calls Try.prog 26 (#[.int .i64 i, .agg #[.string a, .int .u64 s]] ++ #[.pointer (some ⟨rb, 0, none⟩)]) w (Gives (.bool (isReady l i a)) w) := by
  have hal : ∀ o, Below w.heap.size w (w.alloc o) := fun o => (Below.refl _ _).alloc (Nat.le_refl _) o
  have hc1 : ∀ o, (w.alloc o).cell? ⟨rb, 0, none⟩ = some v := fun o => cell_later (hal o) hc
  obtain ⟨p, cap, rfl, _⟩ := hv.opened
  rw [show (#[Value.int IntKind.i64 i, Value.agg #[Value.string a, Value.int IntKind.u64 s]] ++ #[Value.pointer (some ⟨rb, 0, none⟩)] : Array Value) = #[Value.int IntKind.i64 i, Value.agg #[Value.string a, Value.int IntKind.u64 s], Value.pointer (some ⟨rb, 0, none⟩)] from rfl]
  go_enter Try.func26, Try.ntmps26
  go_wp2_with (go_at_call 19; refine (isReady_any _ l _ _ _ (hv.later (hal _))).mono ?_; rintro e w' ⟨rfl, rfl⟩)
  go_ret
  exact ⟨rfl, hal _⟩

set_option maxHeartbeats 1000000 in
theorem ask18 (i : Nat) (a : ByteArray) (s : Int) (rb : Nat) (v : Value) (l : List (Int × ByteArray)) (w : World) (hc : w.cell? ⟨rb, 0, none⟩ = some v) (hv : RL w v l) :
    Calls Try.prog 18 (#[.int .i64 i, .agg #[.string a, .int .u64 s]] ++ #[.pointer (some ⟨rb, 0, none⟩)]) w (Gives (.bool (isReady l i a)) w) := by
  have hal : ∀ o, Below w.heap.size w (w.alloc o) := fun o => (Below.refl _ _).alloc (Nat.le_refl _) o
  have hc1 : ∀ o, (w.alloc o).cell? ⟨rb, 0, none⟩ = some v := fun o => cell_later (hal o) hc
  obtain ⟨p, cap, rfl, _⟩ := hv.opened
  rw [show (#[Value.int IntKind.i64 i, Value.agg #[Value.string a, Value.int IntKind.u64 s]] ++ #[Value.pointer (some ⟨rb, 0, none⟩)] : Array Value) = #[Value.int IntKind.i64 i, Value.agg #[Value.string a, Value.int IntKind.u64 s], Value.pointer (some ⟨rb, 0, none⟩)] from rfl]
  go_enter Try.func18, Try.ntmps18
  go_wp2_with (go_at_call 19; refine (isReady_any _ l _ _ _ (hv.later (hal _))).mono ?_; rintro e w' ⟨rfl, rfl⟩)
  go_ret
  exact ⟨rfl, hal _⟩

set_option maxHeartbeats 1000000 in
theorem ask27 (i : Nat) (a : ByteArray) (s : Int) (ra rb : Nat) (va vb : Value) (la lb : List (Int × ByteArray)) (w : World) (hca : w.cell? ⟨ra, 0, none⟩ = some va) (hva : RL w va la) (hcb : w.cell? ⟨rb, 0, none⟩ = some vb) (hvb : RL w vb lb) :
    Calls Try.prog 27 (#[.int .i64 i, .agg #[.string a, .int .u64 s]] ++ #[.pointer (some ⟨ra, 0, none⟩), .pointer (some ⟨rb, 0, none⟩)]) w (Gives (.bool (isReady la i a || isReady lb i a)) w) := by
  have hal : ∀ o, Below w.heap.size w (w.alloc o) := fun o => (Below.refl _ _).alloc (Nat.le_refl _) o
  have hc1 : ∀ o, (w.alloc o).cell? ⟨ra, 0, none⟩ = some va := fun o => cell_later (hal o) hca
  have hc2 : ∀ o, (w.alloc o).cell? ⟨rb, 0, none⟩ = some vb := fun o => cell_later (hal o) hcb
  obtain ⟨pa, capa, rfl, _⟩ := hva.opened
  obtain ⟨pb, capb, rfl, _⟩ := hvb.opened
  rw [show (#[Value.int IntKind.i64 i, Value.agg #[Value.string a, Value.int IntKind.u64 s]] ++ #[Value.pointer (some ⟨ra, 0, none⟩), Value.pointer (some ⟨rb, 0, none⟩)] : Array Value) = #[Value.int IntKind.i64 i, Value.agg #[Value.string a, Value.int IntKind.u64 s], Value.pointer (some ⟨ra, 0, none⟩), Value.pointer (some ⟨rb, 0, none⟩)] from rfl]
  have Ha : ∀ W, Below w.heap.size w W → Calls Try.prog 19 #[.slice pa la.length capa, .int .i64 i, .string a] W (fun e w' => e = .returned (.bool (isReady la i a)) ∧ W = w') := fun W hW => isReady_any _ la _ _ _ (hva.later hW)
  have Hb : ∀ W, Below w.heap.size w W → Calls Try.prog 19 #[.slice pb lb.length capb, .int .i64 i, .string a] W (fun e w' => e = .returned (.bool (isReady lb i a)) ∧ W = w') := fun W hW => isReady_any _ lb _ _ _ (hvb.later hW)
  generalize isReady la i a = xa at *
  generalize isReady lb i a = xb at *
  generalize la.length = na at *
  generalize lb.length = nb at *
  clear hva hvb hca hcb
  have HA : Hid _ := Ha
  have HB : Hid _ := Hb
  clear Ha Hb
  go_enter Try.func27, Try.ntmps27
  cases xa
  all_goals
    go_wp2_with (first
      | (go_at_call_has 19 pa; refine (HA.out _ (hal _)).mono ?_; rintro e w' ⟨rfl, rfl⟩)
      | (go_at_call_has 19 pb; refine (HB.out _ (hal _)).mono ?_; rintro e w' ⟨rfl, rfl⟩))
    go_ret
    exact ⟨ret_bool (by simp), hal _⟩

theorem asc_of_adj : ∀ es : List (ByteArray × Int), (∀ j x y, es[j]? = some x → es[j + 1]? = some y → x.1.data.toList < y.1.data.toList) → Asc es
  | [], _ => List.Pairwise.nil
  | a :: l, h => by
    have ih : Asc l := asc_of_adj l fun j x y hx hy => h (j + 1) x y (by simpa using hx) (by simpa using hy)
    refine List.Pairwise.cons (fun y hy => ?_) ih
    cases l with
    | nil => simp at hy
    | cons b l =>
      have hab : a.1.data.toList < b.1.data.toList := h 0 a b rfl rfl
      rcases List.mem_cons.mp hy with rfl | hy
      · exact hab
      · exact List.lt_trans hab ((List.pairwise_cons.mp ih).1 y hy)

end Go.Proofs.Qxb6609165a
