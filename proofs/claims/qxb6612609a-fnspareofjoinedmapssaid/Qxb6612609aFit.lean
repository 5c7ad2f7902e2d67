/-
  The guards on lengths: they return some bool and turn nothing.
-/
import Derived.Test.Qxb6612609aLeaf
namespace Go.Proofs.Qxb6612609a
open Go.RowKit

/-- The call answers some bool and turns nothing. -/
def SomeBool (w : World) (e : Ending) (w' : World) : Prop := ∃ r : Bool, e = .returned (.bool r) ∧ w = w'

set_option maxHeartbeats 1000000 in
theorem namesFit_any (a b c : Option Addr) (la lb lc ca cb cc : Nat) (x : ByteArray) (w : World)
    (ha : Strs w a la) (hb : Strs w b lb) (hc : Strs w c lc) (ma : la ≤ 65536) (mb : lb ≤ 65536) (mc : lc ≤ 65536) (mx : x.size ≤ 1048576) :
    Calls Try.prog 6 #[.slice a la ca, .slice b lb cb, .slice c lc cc, .string x] w (SomeBool w) := by
  go_enter Try.func6, Try.ntmps6
  go_wp2
  · go_ret
    exact ⟨_, rfl, rfl⟩
  go_loop [9, 10] (fun s i => ∃ (k : Nat) (z : Int), k ≤ la ∧ i = .int .i64 k ∧ s = .int .i64 z ∧ 0 ≤ z ∧ z ≤ 1048576) (fun _ i => la - (intOf i).toNat)
  case atStart => exact ⟨0, _, by omega, rfl, rfl, by omega, by omega⟩
  case round =>
    obtain ⟨k, z, hk, rfl, rfl, hz0, hz1⟩ := hrel
    by_cases hlt : k < la
    · obtain ⟨pb, po, s, rfl, hcell, hs⟩ := ha k hlt
      unfold maxLen at hs
      go_wp2
      · go_ret
        exact ⟨_, rfl, rfl⟩
      · go_ret
        exact ⟨_, rfl, rfl⟩
      · go_round
        case rel => exact ⟨k + 1, _, by omega, by go_num, rfl, by omega, by omega⟩
        case measure => simp [intOf]; omega
    · go_wp2
      go_loop [9, 11] (fun s i => ∃ (k : Nat) (z : Int), k ≤ lb ∧ i = .int .i64 k ∧ s = .int .i64 z ∧ 0 ≤ z ∧ z ≤ 1048576) (fun _ i => lb - (intOf i).toNat)
      case atStart => exact ⟨0, _, by omega, rfl, rfl, by omega, by omega⟩
      case round =>
        obtain ⟨k, z, hk, rfl, rfl, hz0, hz1⟩ := hrel
        by_cases hlt : k < lb
        · obtain ⟨pb, po, s, rfl, hcell, hs⟩ := hb k hlt
          unfold maxLen at hs
          go_wp2
          · go_ret
            exact ⟨_, rfl, rfl⟩
          · go_ret
            exact ⟨_, rfl, rfl⟩
          · go_round
            case rel => exact ⟨k + 1, _, by omega, by go_num, rfl, by omega, by omega⟩
            case measure => simp [intOf]; omega
        · go_wp2
          go_loop [9, 12] (fun s i => ∃ (k : Nat) (z : Int), k ≤ lc ∧ i = .int .i64 k ∧ s = .int .i64 z ∧ 0 ≤ z ∧ z ≤ 1048576) (fun _ i => lc - (intOf i).toNat)
          case atStart => exact ⟨0, _, by omega, rfl, rfl, by omega, by omega⟩
          case round =>
            obtain ⟨k, z, hk, rfl, rfl, hz0, hz1⟩ := hrel
            by_cases hlt : k < lc
            · obtain ⟨pb, po, s, rfl, hcell, hs⟩ := hc k hlt
              unfold maxLen at hs
              go_wp2
              · go_ret
                exact ⟨_, rfl, rfl⟩
              · go_ret
                exact ⟨_, rfl, rfl⟩
              · go_round
                case rel => exact ⟨k + 1, _, by omega, by go_num, rfl, by omega, by omega⟩
                case measure => simp [intOf]; omega
            · go_wp2
              go_ret
              exact ⟨_, rfl, rfl⟩

set_option maxHeartbeats 1000000 in
theorem bytesOne_any (a b : Option Addr) (la lb ca cb : Nat) (x : ByteArray) (w : World)
    (ha : Strs w a la) (hb : Strs w b lb) (ma : la ≤ maxLen) (mb : lb ≤ maxLen) (mx : x.size ≤ maxLen) :
    Calls Try.prog 5 #[.slice a la ca, .slice b lb cb, .string x] w (SomeBool w) := by
  unfold maxLen at ma mb mx
  go_enter Try.func5, Try.ntmps5
  go_wp2
  · go_ret
    exact ⟨_, rfl, rfl⟩
  go_loop [7, 8] (fun s i => ∃ (k : Nat) (z : Int), k ≤ la ∧ i = .int .i64 k ∧ s = .int .i64 z ∧ 0 ≤ z ∧ z ≤ 1048576) (fun _ i => la - (intOf i).toNat)
  case atStart => exact ⟨0, _, by omega, rfl, rfl, by omega, by omega⟩
  case round =>
    obtain ⟨k, z, hk, rfl, rfl, hz0, hz1⟩ := hrel
    by_cases hlt : k < la
    · obtain ⟨pb, po, s, rfl, hcell, hs⟩ := ha k hlt
      unfold maxLen at hs
      go_wp2
      · go_ret
        exact ⟨_, rfl, rfl⟩
      · go_ret
        exact ⟨_, rfl, rfl⟩
      · go_round
        case rel => exact ⟨k + 1, _, by omega, by go_num, rfl, by omega, by omega⟩
        case measure => simp [intOf]; omega
    · go_wp2
      · go_ret
        exact ⟨_, rfl, rfl⟩
      · go_ret
        exact ⟨_, rfl, rfl⟩
      go_loop [7, 9] (fun s i => ∃ (k : Nat) (z : Int), k ≤ lb ∧ i = .int .i64 k ∧ s = .int .i64 z ∧ 0 ≤ z ∧ z ≤ 1048576) (fun _ i => lb - (intOf i).toNat)
      case atStart => exact ⟨0, _, by omega, rfl, rfl, by omega, by omega⟩
      case round =>
        obtain ⟨k, z, hk, rfl, rfl, hz0, hz1⟩ := hrel
        by_cases hlt : k < lb
        · obtain ⟨pb, po, s, rfl, hcell, hs⟩ := hb k hlt
          unfold maxLen at hs
          go_wp2
          · go_ret
            exact ⟨_, rfl, rfl⟩
          · go_ret
            exact ⟨_, rfl, rfl⟩
          · go_round
            case rel => exact ⟨k + 1, _, by omega, by go_num, rfl, by omega, by omega⟩
            case measure => simp [intOf]; omega
        · go_wp2
          all_goals go_ret
          all_goals exact ⟨_, rfl, rfl⟩

set_option maxHeartbeats 1000000 in
theorem bytesJoin_any (a b c : Option Addr) (la lb lc ca cb cc : Nat) (w : World)
    (ha : Strs w a la) (hb : Strs w b lb) (hc : Strs w c lc) (ma : la ≤ maxLen) (mb : lb ≤ maxLen) (mc : lc ≤ maxLen) :
    Calls Try.prog 10 #[.slice a la ca, .slice b lb cb, .slice c lc cc] w (SomeBool w) := by
  unfold maxLen at ma mb mc
  go_enter Try.func10, Try.ntmps10
  go_wp2
  · go_ret
    exact ⟨_, rfl, rfl⟩
  go_loop [7, 8] (fun s i => ∃ (k : Nat) (z : Int), k ≤ la ∧ i = .int .i64 k ∧ s = .int .i64 z ∧ 0 ≤ z ∧ z ≤ 1048576) (fun _ i => la - (intOf i).toNat)
  case atStart => exact ⟨0, _, by omega, rfl, rfl, by omega, by omega⟩
  case round =>
    obtain ⟨k, z, hk, rfl, rfl, hz0, hz1⟩ := hrel
    by_cases hlt : k < la
    · obtain ⟨pb, po, s, rfl, hcell, hs⟩ := ha k hlt
      unfold maxLen at hs
      go_wp2
      · go_ret
        exact ⟨_, rfl, rfl⟩
      · go_ret
        exact ⟨_, rfl, rfl⟩
      · go_round
        case rel => exact ⟨k + 1, _, by omega, by go_num, rfl, by omega, by omega⟩
        case measure => simp [intOf]; omega
    · go_wp2
      · go_ret
        exact ⟨_, rfl, rfl⟩
      · go_ret
        exact ⟨_, rfl, rfl⟩
      go_loop [7, 9] (fun s i => ∃ (k : Nat) (z : Int), k ≤ lb ∧ i = .int .i64 k ∧ s = .int .i64 z ∧ 0 ≤ z ∧ z ≤ 1048576) (fun _ i => lb - (intOf i).toNat)
      case atStart => exact ⟨0, _, by omega, rfl, rfl, by omega, by omega⟩
      case round =>
        obtain ⟨k, z, hk, rfl, rfl, hz0, hz1⟩ := hrel
        by_cases hlt : k < lb
        · obtain ⟨pb, po, s, rfl, hcell, hs⟩ := hb k hlt
          unfold maxLen at hs
          go_wp2
          · go_ret
            exact ⟨_, rfl, rfl⟩
          · go_ret
            exact ⟨_, rfl, rfl⟩
          · go_round
            case rel => exact ⟨k + 1, _, by omega, by go_num, rfl, by omega, by omega⟩
            case measure => simp [intOf]; omega
        · go_wp2
          · go_ret
            exact ⟨_, rfl, rfl⟩
          · go_ret
            exact ⟨_, rfl, rfl⟩
          go_loop [7, 10] (fun s i => ∃ (k : Nat) (z : Int), k ≤ lc ∧ i = .int .i64 k ∧ s = .int .i64 z ∧ 0 ≤ z ∧ z ≤ 1048576) (fun _ i => lc - (intOf i).toNat)
          case atStart => exact ⟨0, _, by omega, rfl, rfl, by omega, by omega⟩
          case round =>
            obtain ⟨k, z, hk, rfl, rfl, hz0, hz1⟩ := hrel
            by_cases hlt : k < lc
            · obtain ⟨pb, po, s, rfl, hcell, hs⟩ := hc k hlt
              unfold maxLen at hs
              go_wp2
              · go_ret
                exact ⟨_, rfl, rfl⟩
              · go_ret
                exact ⟨_, rfl, rfl⟩
              · go_round
                case rel => exact ⟨k + 1, _, by omega, by go_num, rfl, by omega, by omega⟩
                case measure => simp [intOf]; omega
            · go_wp2
              all_goals go_ret
              all_goals exact ⟨_, rfl, rfl⟩

end Go.Proofs.Qxb6612609a
