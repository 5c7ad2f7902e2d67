/-
  The guards: zzBytes, zzStrBytes, zzMin.
-/
import Derived.Test.Qxb6609179aBase
namespace Go.Proofs.Qxb6609179a
open Go.RowKit

def SomeBool (w : World) (e : Ending) (w' : World) : Prop := ∃ r : Bool, e = .returned (.bool r) ∧ w = w'

set_option maxRecDepth 50000 in
set_option maxHeartbeats 2000000 in
theorem bytes_any (pr : ByteArray) (bv kv vv : Value) (bl : List Bool) (ks vs : List ByteArray) (w : World) (hp : pr.size ≤ maxLen) (hb : BL w bv bl) (hk : FL w kv ks) (hv : FL w vv vs) :
    Calls Try.prog 4 #[.string pr, bv, kv, vv] w (SomeBool w) := by
  obtain ⟨bp, bcap, rfl, hbl, hbm, -, -⟩ := hb.opened
  obtain ⟨kp, kcap, rfl, hkl, hkm, -, KC⟩ := hk.opened
  obtain ⟨vp, vcap, rfl, hvl, hvm, -, VC⟩ := hv.opened
  clear hb hk hv
  unfold maxLen at hp hbm hkm hvm
  go_enter Try.func4, Try.ntmps4
  go_wp2
  all_goals first | (go_ret; exact ⟨_, rfl, rfl⟩) | skip
  go_loop [9, 10] (fun s i => ∃ (k : Nat) (z : Int), k ≤ ks.length ∧ i = .int .i64 k ∧ s = .int .i64 z ∧ 0 ≤ z ∧ z ≤ 1048576) (fun _ i => ks.length - (intOf i).toNat)
  case atStart => exact ⟨0, _, by omega, rfl, rfl, by omega, by omega⟩
  case round =>
    obtain ⟨k, z, hk, rfl, rfl, hz0, hz1⟩ := hrel
    by_cases hlt : k < ks.length
    · obtain ⟨x, hx⟩ : ∃ x, ks[k]? = some x := ⟨_, List.getElem?_eq_getElem hlt⟩
      obtain ⟨b, off, rfl, c0, hs⟩ := KC.out k x hx
      clear hx
      unfold maxLen at hs
      go_wp2
      · go_ret
        exact ⟨_, rfl, rfl⟩
      · go_ret
        exact ⟨_, rfl, rfl⟩
      · go_round
        case rel => exact ⟨k + 1, _, by omega, by go_num, rfl, by omega, by omega⟩
        case measure => simp [intOf]; omega
    · go_wp2
      · go_ret
        exact ⟨_, rfl, rfl⟩
      · go_ret
        exact ⟨_, rfl, rfl⟩
      go_loop [9, 11] (fun s i => ∃ (k : Nat) (z : Int), k ≤ vs.length ∧ i = .int .i64 k ∧ s = .int .i64 z ∧ 0 ≤ z ∧ z ≤ 1048576) (fun _ i => vs.length - (intOf i).toNat)
      case atStart => exact ⟨0, _, by omega, rfl, rfl, by omega, by omega⟩
      case round =>
        obtain ⟨j, z, hj, rfl, rfl, hz0, hz1⟩ := hrel
        by_cases hjt : j < vs.length
        · obtain ⟨x, hx⟩ : ∃ x, vs[j]? = some x := ⟨_, List.getElem?_eq_getElem hjt⟩
          obtain ⟨b, off, rfl, c0, hs⟩ := VC.out j x hx
          clear hx
          unfold maxLen at hs
          go_wp2
          · go_ret
            exact ⟨_, rfl, rfl⟩
          · go_ret
            exact ⟨_, rfl, rfl⟩
          · go_round
            case rel => exact ⟨j + 1, _, by omega, by go_num, rfl, by omega, by omega⟩
            case measure => simp [intOf]; omega
        · go_wp2
          go_ret
          exact ⟨_, rfl, rfl⟩

/-- A number up to the limit and one. -/
def SomeNum (w : World) (e : Ending) (w' : World) : Prop := ∃ z : Int, e = .returned (.int .i64 z) ∧ w = w' ∧ 0 ≤ z ∧ z ≤ 1048577

set_option maxRecDepth 50000 in
set_option maxHeartbeats 2000000 in
theorem strBytes_any (kv : Value) (ks : List ByteArray) (w : World) (hk : FL w kv ks) : Calls Try.prog 5 #[kv] w (SomeNum w) := by
  obtain ⟨kp, kcap, rfl, hkl, hkm, -, KC⟩ := hk.opened
  clear hk
  unfold maxLen at hkm
  go_enter Try.func5, Try.ntmps5
  go_wp2
  all_goals first | (go_ret; exact ⟨_, rfl, rfl, by omega, by omega⟩) | skip
  go_loop [3, 4] (fun s i => ∃ (k : Nat) (z : Int), k ≤ ks.length ∧ i = .int .i64 k ∧ s = .int .i64 z ∧ 0 ≤ z ∧ z ≤ 1048576) (fun _ i => ks.length - (intOf i).toNat)
  case atStart => exact ⟨0, _, by omega, rfl, rfl, by omega, by omega⟩
  case round =>
    obtain ⟨k, z, hk, rfl, rfl, hz0, hz1⟩ := hrel
    by_cases hlt : k < ks.length
    · obtain ⟨x, hx⟩ : ∃ x, ks[k]? = some x := ⟨_, List.getElem?_eq_getElem hlt⟩
      obtain ⟨b, off, rfl, c0, hs⟩ := KC.out k x hx
      clear hx
      unfold maxLen at hs
      go_wp2
      · go_ret
        exact ⟨_, rfl, rfl, by omega, by omega⟩
      · go_ret
        exact ⟨_, rfl, rfl, by omega, by omega⟩
      · go_round
        case rel => exact ⟨k + 1, _, by omega, by go_num, rfl, by omega, by omega⟩
        case measure => simp [intOf]; omega
    · go_wp2
      go_ret
      exact ⟨_, rfl, rfl, by omega, by omega⟩

set_option maxHeartbeats 1000000 in
theorem min_any (a b : Nat) (w : World) : Calls Try.prog 6 #[.int .i64 a, .int .i64 b] w (fun e w' => e = .returned (.int .i64 ((min a b : Nat) : Int)) ∧ w = w') := by
  go_enter Try.func6, Try.ntmps6
  by_cases h : a < b
  · have hm : min a b = a := by omega
    rw [hm]
    go_wp2
    go_ret
    exact ⟨rfl, rfl⟩
  · have hm : min a b = b := by omega
    rw [hm]
    go_wp2
    go_ret
    exact ⟨rfl, rfl⟩

end Go.Proofs.Qxb6609179a
