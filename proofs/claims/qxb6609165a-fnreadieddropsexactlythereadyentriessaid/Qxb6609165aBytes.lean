/-
  The two laid guards on lengths: they return some bool and turn nothing.
-/
import Derived.Test.Qxb6609165aGuards
namespace Go.Proofs.Qxb6609165a
open Go.RowKit

/-- The call answers some bool and turns nothing. -/
def SomeBool (w : World) (e : Ending) (w' : World) : Prop := ∃ r : Bool, e = .returned (.bool r) ∧ w = w'

set_option maxRecDepth 50000 in
set_option maxHeartbeats 4000000 in
theorem bytesTwo_any (fm ep : Value) (sv av r0v r1v : Value) (ss : List SlotD) (ads : List (ByteArray × ByteArray)) (r0 r1 : List (Int × ByteArray)) (w : World) (hs : SLs w sv ss) (ha : AL w av ads) (hr0 : RL w r0v r0) (hr1 : RL w r1v r1) :
    Calls Try.prog 24 #[fm, ep, sv, av, r0v, r1v] w (SomeBool w) := by
  obtain ⟨p, cap, rfl, hl, hm, _, HC⟩ := hs.opened
  obtain ⟨ap, acap, rfl, hal, ham, _, AC⟩ := ha.opened
  obtain ⟨r0p, r0cap, rfl, hr0l, hr0m, _, R0C⟩ := hr0.opened
  obtain ⟨r1p, r1cap, rfl, hr1l, hr1m, _, R1C⟩ := hr1.opened
  clear hs ha hr0 hr1
  unfold maxLen at hm ham hr0m hr1m
  go_enter Try.func24, Try.ntmps24
  go_wp2
  · go_ret
    exact ⟨_, rfl, rfl⟩
  go_loop [13, 14] (fun s i => ∃ (k : Nat) (z : Int), k ≤ ss.length ∧ i = .int .i64 k ∧ s = .int .i64 z ∧ 0 ≤ z ∧ z ≤ 1048576) (fun _ i => ss.length - (intOf i).toNat)
  case atStart => exact ⟨0, _, by omega, rfl, rfl, by omega, by omega⟩
  case round =>
    obtain ⟨k, z, hk, rfl, rfl, hz0, hz1⟩ := hrel
    by_cases hlt : k < ss.length
    · obtain ⟨x, hx⟩ : ∃ x, ss[k]? = some x := ⟨_, List.getElem?_eq_getElem hlt⟩
      obtain ⟨b, off, rfl, ⟨c0, c1, c2, c3, c4⟩, hs, hfl, hnr⟩ := HC.out k x hx
      obtain ⟨xid, xl, xle, xf, xfs, xn, xes⟩ := x
      change FL w xf xfs at hfl
      change NRL w xn xes at hnr
      obtain ⟨fp, fcap, rfl, hfl1, hfm, _, FC⟩ := hfl.opened
      obtain ⟨np, ncap, rfl, hnl1, hnm, _, NC⟩ := hnr.opened
      dsimp only at hs c0 c1 c2 c3 c4 hfl1 hfm hnl1 hnm FC NC
      clear hfl hnr hx
      unfold maxLen at hs hfm hnm
      go_wp2
      · go_ret
        exact ⟨_, rfl, rfl⟩
      · go_ret
        exact ⟨_, rfl, rfl⟩
      · go_ret
        exact ⟨_, rfl, rfl⟩
      · go_ret
        exact ⟨_, rfl, rfl⟩
      go_loop [13, 15] (fun s i => ∃ (k : Nat) (z : Int), k ≤ xfs.length ∧ i = .int .i64 k ∧ s = .int .i64 z ∧ 0 ≤ z ∧ z ≤ 1048576) (fun _ i => xfs.length - (intOf i).toNat)
      case atStart => exact ⟨0, _, by omega, rfl, rfl, by omega, by omega⟩
      case round =>
        obtain ⟨j, z, hj, rfl, rfl, hz0, hz1⟩ := hrel
        by_cases hjt : j < xfs.length
        · obtain ⟨y, hy⟩ : ∃ y, xfs[j]? = some y := ⟨_, List.getElem?_eq_getElem hjt⟩
          obtain ⟨fb, foff, rfl, d1, hys⟩ := FC.out j y hy
          clear hy
          unfold maxLen at hys
          go_wp2
          · go_ret
            exact ⟨_, rfl, rfl⟩
          · go_ret
            exact ⟨_, rfl, rfl⟩
          · go_round
            case rel => exact ⟨j + 1, _, by omega, by go_num, rfl, by omega, by omega⟩
            case measure => simp [intOf]; omega
        · go_wp2
          · go_ret
            exact ⟨_, rfl, rfl⟩
          · go_ret
            exact ⟨_, rfl, rfl⟩
          go_loop [13, 16] (fun s i => ∃ (k : Nat) (z : Int), k ≤ xes.length ∧ i = .int .i64 k ∧ s = .int .i64 z ∧ 0 ≤ z ∧ z ≤ 1048576) (fun _ i => xes.length - (intOf i).toNat)
          case atStart => exact ⟨0, _, by omega, rfl, rfl, by omega, by omega⟩
          case round =>
            obtain ⟨j, z, hj, rfl, rfl, hz0, hz1⟩ := hrel
            by_cases hjt : j < xes.length
            · obtain ⟨y, hy⟩ : ∃ y, xes[j]? = some y := ⟨_, List.getElem?_eq_getElem hjt⟩
              obtain ⟨nb, noff, rfl, d1, d2, hys⟩ := NC.out j y hy
              clear hy
              unfold maxLen at hys
              go_wp2
              · go_ret
                exact ⟨_, rfl, rfl⟩
              · go_ret
                exact ⟨_, rfl, rfl⟩
              · go_round
                case rel => exact ⟨j + 1, _, by omega, by go_num, rfl, by omega, by omega⟩
                case measure => simp [intOf]; omega
            · go_wp2
              go_round
              case rel => exact ⟨k + 1, _, by omega, by go_num, rfl, by omega, by omega⟩
              case measure => simp [intOf]; omega
    · go_wp2
      · go_ret
        exact ⟨_, rfl, rfl⟩
      · go_ret
        exact ⟨_, rfl, rfl⟩
      go_loop [13, 17] (fun s i => ∃ (k : Nat) (z : Int), k ≤ ads.length ∧ i = .int .i64 k ∧ s = .int .i64 z ∧ 0 ≤ z ∧ z ≤ 1048576) (fun _ i => ads.length - (intOf i).toNat)
      case atStart => exact ⟨0, _, by omega, rfl, rfl, by omega, by omega⟩
      case round =>
        obtain ⟨j, z, hj, rfl, rfl, hz0, hz1⟩ := hrel
        by_cases hjt : j < ads.length
        · obtain ⟨y, hy⟩ : ∃ y, ads[j]? = some y := ⟨_, List.getElem?_eq_getElem hjt⟩
          obtain ⟨nb, noff, rfl, d1, d2, hys, hys2⟩ := AC.out j y hy
          clear hy
          unfold maxLen at hys hys2
          go_wp2
          · go_ret
            exact ⟨_, rfl, rfl⟩
          · go_ret
            exact ⟨_, rfl, rfl⟩
          · go_ret
            exact ⟨_, rfl, rfl⟩
          · go_ret
            exact ⟨_, rfl, rfl⟩
          · go_round
            case rel => exact ⟨j + 1, _, by omega, by go_num, rfl, by omega, by omega⟩
            case measure => simp [intOf]; omega
        · go_wp2
          · go_ret
            exact ⟨_, rfl, rfl⟩
          · go_ret
            exact ⟨_, rfl, rfl⟩
          go_loop [13, 18] (fun s i => ∃ (k : Nat) (z : Int), k ≤ r0.length ∧ i = .int .i64 k ∧ s = .int .i64 z ∧ 0 ≤ z ∧ z ≤ 1048576) (fun _ i => r0.length - (intOf i).toNat)
          case atStart => exact ⟨0, _, by omega, rfl, rfl, by omega, by omega⟩
          case round =>
            obtain ⟨j, z, hj, rfl, rfl, hz0, hz1⟩ := hrel
            by_cases hjt : j < r0.length
            · obtain ⟨y, hy⟩ : ∃ y, r0[j]? = some y := ⟨_, List.getElem?_eq_getElem hjt⟩
              obtain ⟨nb, noff, rfl, d1, d2, hys⟩ := R0C.out j y hy
              clear hy
              unfold maxLen at hys
              go_wp2
              · go_ret
                exact ⟨_, rfl, rfl⟩
              · go_ret
                exact ⟨_, rfl, rfl⟩
              · go_round
                case rel => exact ⟨j + 1, _, by omega, by go_num, rfl, by omega, by omega⟩
                case measure => simp [intOf]; omega
            · go_wp2
              · go_ret
                exact ⟨_, rfl, rfl⟩
              · go_ret
                exact ⟨_, rfl, rfl⟩
              go_loop [13, 19] (fun s i => ∃ (k : Nat) (z : Int), k ≤ r1.length ∧ i = .int .i64 k ∧ s = .int .i64 z ∧ 0 ≤ z ∧ z ≤ 1048576) (fun _ i => r1.length - (intOf i).toNat)
              case atStart => exact ⟨0, _, by omega, rfl, rfl, by omega, by omega⟩
              case round =>
                obtain ⟨j, z, hj, rfl, rfl, hz0, hz1⟩ := hrel
                by_cases hjt : j < r1.length
                · obtain ⟨y, hy⟩ : ∃ y, r1[j]? = some y := ⟨_, List.getElem?_eq_getElem hjt⟩
                  obtain ⟨nb, noff, rfl, d1, d2, hys⟩ := R1C.out j y hy
                  clear hy
                  unfold maxLen at hys
                  go_wp2
                  · go_ret
                    exact ⟨_, rfl, rfl⟩
                  · go_ret
                    exact ⟨_, rfl, rfl⟩
                  · go_round
                    case rel => exact ⟨j + 1, _, by omega, by go_num, rfl, by omega, by omega⟩
                    case measure => simp [intOf]; omega
                · go_wp2
                  go_ret
                  exact ⟨_, rfl, rfl⟩

set_option maxRecDepth 50000 in
set_option maxHeartbeats 4000000 in
theorem bytesDrops_any (fm ep : Value) (sv av r0v : Value) (ss : List SlotD) (ads : List (ByteArray × ByteArray)) (r0 : List (Int × ByteArray)) (w : World) (hs : SLs w sv ss) (ha : AL w av ads) (hr0 : RL w r0v r0) :
    Calls Try.prog 14 #[fm, ep, sv, av, r0v] w (SomeBool w) := by
  obtain ⟨p, cap, rfl, hl, hm, _, HC⟩ := hs.opened
  obtain ⟨ap, acap, rfl, hal, ham, _, AC⟩ := ha.opened
  obtain ⟨r0p, r0cap, rfl, hr0l, hr0m, _, R0C⟩ := hr0.opened
  clear hs ha hr0
  unfold maxLen at hm ham hr0m
  go_enter Try.func14, Try.ntmps14
  go_wp2
  · go_ret
    exact ⟨_, rfl, rfl⟩
  go_loop [11, 12] (fun s i => ∃ (k : Nat) (z : Int), k ≤ ss.length ∧ i = .int .i64 k ∧ s = .int .i64 z ∧ 0 ≤ z ∧ z ≤ 1048576) (fun _ i => ss.length - (intOf i).toNat)
  case atStart => exact ⟨0, _, by omega, rfl, rfl, by omega, by omega⟩
  case round =>
    obtain ⟨k, z, hk, rfl, rfl, hz0, hz1⟩ := hrel
    by_cases hlt : k < ss.length
    · obtain ⟨x, hx⟩ : ∃ x, ss[k]? = some x := ⟨_, List.getElem?_eq_getElem hlt⟩
      obtain ⟨b, off, rfl, ⟨c0, c1, c2, c3, c4⟩, hs, hfl, hnr⟩ := HC.out k x hx
      obtain ⟨xid, xl, xle, xf, xfs, xn, xes⟩ := x
      change FL w xf xfs at hfl
      change NRL w xn xes at hnr
      obtain ⟨fp, fcap, rfl, hfl1, hfm, _, FC⟩ := hfl.opened
      obtain ⟨np, ncap, rfl, hnl1, hnm, _, NC⟩ := hnr.opened
      dsimp only at hs c0 c1 c2 c3 c4 hfl1 hfm hnl1 hnm FC NC
      clear hfl hnr hx
      unfold maxLen at hs hfm hnm
      go_wp2
      · go_ret
        exact ⟨_, rfl, rfl⟩
      · go_ret
        exact ⟨_, rfl, rfl⟩
      · go_ret
        exact ⟨_, rfl, rfl⟩
      · go_ret
        exact ⟨_, rfl, rfl⟩
      go_loop [11, 13] (fun s i => ∃ (k : Nat) (z : Int), k ≤ xfs.length ∧ i = .int .i64 k ∧ s = .int .i64 z ∧ 0 ≤ z ∧ z ≤ 1048576) (fun _ i => xfs.length - (intOf i).toNat)
      case atStart => exact ⟨0, _, by omega, rfl, rfl, by omega, by omega⟩
      case round =>
        obtain ⟨j, z, hj, rfl, rfl, hz0, hz1⟩ := hrel
        by_cases hjt : j < xfs.length
        · obtain ⟨y, hy⟩ : ∃ y, xfs[j]? = some y := ⟨_, List.getElem?_eq_getElem hjt⟩
          obtain ⟨fb, foff, rfl, d1, hys⟩ := FC.out j y hy
          clear hy
          unfold maxLen at hys
          go_wp2
          · go_ret
            exact ⟨_, rfl, rfl⟩
          · go_ret
            exact ⟨_, rfl, rfl⟩
          · go_round
            case rel => exact ⟨j + 1, _, by omega, by go_num, rfl, by omega, by omega⟩
            case measure => simp [intOf]; omega
        · go_wp2
          · go_ret
            exact ⟨_, rfl, rfl⟩
          · go_ret
            exact ⟨_, rfl, rfl⟩
          go_loop [11, 14] (fun s i => ∃ (k : Nat) (z : Int), k ≤ xes.length ∧ i = .int .i64 k ∧ s = .int .i64 z ∧ 0 ≤ z ∧ z ≤ 1048576) (fun _ i => xes.length - (intOf i).toNat)
          case atStart => exact ⟨0, _, by omega, rfl, rfl, by omega, by omega⟩
          case round =>
            obtain ⟨j, z, hj, rfl, rfl, hz0, hz1⟩ := hrel
            by_cases hjt : j < xes.length
            · obtain ⟨y, hy⟩ : ∃ y, xes[j]? = some y := ⟨_, List.getElem?_eq_getElem hjt⟩
              obtain ⟨nb, noff, rfl, d1, d2, hys⟩ := NC.out j y hy
              clear hy
              unfold maxLen at hys
              go_wp2
              · go_ret
                exact ⟨_, rfl, rfl⟩
              · go_ret
                exact ⟨_, rfl, rfl⟩
              · go_round
                case rel => exact ⟨j + 1, _, by omega, by go_num, rfl, by omega, by omega⟩
                case measure => simp [intOf]; omega
            · go_wp2
              go_round
              case rel => exact ⟨k + 1, _, by omega, by go_num, rfl, by omega, by omega⟩
              case measure => simp [intOf]; omega
    · go_wp2
      · go_ret
        exact ⟨_, rfl, rfl⟩
      · go_ret
        exact ⟨_, rfl, rfl⟩
      go_loop [11, 15] (fun s i => ∃ (k : Nat) (z : Int), k ≤ ads.length ∧ i = .int .i64 k ∧ s = .int .i64 z ∧ 0 ≤ z ∧ z ≤ 1048576) (fun _ i => ads.length - (intOf i).toNat)
      case atStart => exact ⟨0, _, by omega, rfl, rfl, by omega, by omega⟩
      case round =>
        obtain ⟨j, z, hj, rfl, rfl, hz0, hz1⟩ := hrel
        by_cases hjt : j < ads.length
        · obtain ⟨y, hy⟩ : ∃ y, ads[j]? = some y := ⟨_, List.getElem?_eq_getElem hjt⟩
          obtain ⟨nb, noff, rfl, d1, d2, hys, hys2⟩ := AC.out j y hy
          clear hy
          unfold maxLen at hys hys2
          go_wp2
          · go_ret
            exact ⟨_, rfl, rfl⟩
          · go_ret
            exact ⟨_, rfl, rfl⟩
          · go_ret
            exact ⟨_, rfl, rfl⟩
          · go_ret
            exact ⟨_, rfl, rfl⟩
          · go_round
            case rel => exact ⟨j + 1, _, by omega, by go_num, rfl, by omega, by omega⟩
            case measure => simp [intOf]; omega
        · go_wp2
          · go_ret
            exact ⟨_, rfl, rfl⟩
          · go_ret
            exact ⟨_, rfl, rfl⟩
          go_loop [11, 16] (fun s i => ∃ (k : Nat) (z : Int), k ≤ r0.length ∧ i = .int .i64 k ∧ s = .int .i64 z ∧ 0 ≤ z ∧ z ≤ 1048576) (fun _ i => r0.length - (intOf i).toNat)
          case atStart => exact ⟨0, _, by omega, rfl, rfl, by omega, by omega⟩
          case round =>
            obtain ⟨j, z, hj, rfl, rfl, hz0, hz1⟩ := hrel
            by_cases hjt : j < r0.length
            · obtain ⟨y, hy⟩ : ∃ y, r0[j]? = some y := ⟨_, List.getElem?_eq_getElem hjt⟩
              obtain ⟨nb, noff, rfl, d1, d2, hys⟩ := R0C.out j y hy
              clear hy
              unfold maxLen at hys
              go_wp2
              · go_ret
                exact ⟨_, rfl, rfl⟩
              · go_ret
                exact ⟨_, rfl, rfl⟩
              · go_round
                case rel => exact ⟨j + 1, _, by omega, by go_num, rfl, by omega, by omega⟩
                case measure => simp [intOf]; omega
            · go_wp2
              go_ret
              exact ⟨_, rfl, rfl⟩

end Go.Proofs.Qxb6609165a
