/-
  The guards on lengths.
-/
import Derived.Test.Qxb6609165aBase
namespace Go.Proofs.Qxb6609165a
open Go.RowKit

/-- The call answers a number within the limit and a bool; where the bool is false, P holds of the number. -/
def NumBool (P : Int → Prop) (w : World) (e : Ending) (w' : World) : Prop :=
  ∃ (n : Int) (o : Bool), e = .returned (.tuple #[.int .i64 n, .bool o]) ∧ w = w' ∧ 0 ≤ n ∧ n ≤ 1048576 ∧ (o = false → P n)

set_option maxHeartbeats 1000000 in
theorem readyBytes_any (total : Int) (v : Value) (l : List (Int × ByteArray)) (w : World) (hv : RL w v l) (ht0 : 0 ≤ total) (ht1 : total ≤ 1048576) :
    Calls Try.prog 15 #[.int .i64 total, v] w (NumBool (fun _ => True) w) := by
  obtain ⟨p, cap, rfl, hl, hm, _, HC⟩ := hv.opened
  unfold maxLen at hm
  go_enter Try.func15, Try.ntmps15
  go_wp2_with (go_at_call 28; refine (add_any _ _ _ _ (by omega) (by omega) (by omega) (by omega) (by omega)).mono ?_; rintro e w' (⟨rfl, rfl⟩ | ⟨n, rfl, rfl, hn, hn1⟩))
  · go_ret2
    exact ⟨0, true, rfl, rfl, by omega, by omega, fun hh => by simp at hh⟩
  go_loop [6, 7, 8] (fun s o i => ∃ (k : Nat) (z : Int) (ob : Bool), k ≤ l.length ∧ i = .int .i64 k ∧ s = .int .i64 z ∧ o = .bool ob ∧ 0 ≤ z ∧ z ≤ 1048576) (fun _ _ i => l.length - (intOf i).toNat)
  case atStart => exact ⟨0, _, _, by omega, rfl, rfl, rfl, by omega, by omega⟩
  case round =>
    obtain ⟨k, z, ob, hk, rfl, rfl, rfl, hz0, hz1⟩ := hrel
    by_cases hlt : k < l.length
    · obtain ⟨x, hx⟩ : ∃ x, l[k]? = some x := ⟨_, List.getElem?_eq_getElem hlt⟩
      obtain ⟨b, off, rfl, c1, c2, hs⟩ := HC.out k x hx
      unfold maxLen at hs
      go_wp2_with (go_at_call 28; refine (add_any _ _ _ _ (by omega) (by omega) (by omega) (by omega) (by omega)).mono ?_; rintro e w' (⟨rfl, rfl⟩ | ⟨n, rfl, rfl, hn, hn1⟩))
      · go_ret2
        exact ⟨0, true, rfl, rfl, by omega, by omega, fun hh => by simp at hh⟩
      · go_round
        case rel => exact ⟨k + 1, _, _, by omega, by go_num, rfl, rfl, by omega, by omega⟩
        case measure => simp [intOf]; omega
    · go_wp2
      go_ret2
      exact ⟨z, false, rfl, rfl, by omega, by omega, fun _ => trivial⟩

set_option maxHeartbeats 1000000 in
theorem addrsBytes_any (total : Int) (v : Value) (l : List (ByteArray × ByteArray)) (w : World) (hv : AL w v l) (ht0 : 0 ≤ total) (ht1 : total ≤ 1048576) :
    Calls Try.prog 8 #[.int .i64 total, v] w (NumBool (fun _ => l.length ≤ 32768) w) := by
  obtain ⟨p, cap, rfl, hl, hm, _, HC⟩ := hv.opened
  unfold maxLen at hm
  go_enter Try.func8, Try.ntmps8
  go_wp2_with (go_at_call 28; refine (add_any _ _ _ _ (by omega) (by omega) (by omega) (by omega) (by omega)).mono ?_; rintro e w' (⟨rfl, rfl⟩ | ⟨n, rfl, rfl, hn, hn1⟩))
  · go_ret2
    exact ⟨0, true, rfl, rfl, by omega, by omega, fun hh => by simp at hh⟩
  have HL : Hid (l.length ≤ 32768) := by
    unfold Hid; omega
  go_loop [6, 7, 8] (fun s o i => ∃ (k : Nat) (z : Int) (ob : Bool), k ≤ l.length ∧ i = .int .i64 k ∧ s = .int .i64 z ∧ o = .bool ob ∧ 0 ≤ z ∧ z ≤ 1048576) (fun _ _ i => l.length - (intOf i).toNat)
  case atStart => exact ⟨0, _, _, by omega, rfl, rfl, rfl, by omega, by omega⟩
  case round =>
    obtain ⟨k, z, ob, hk, rfl, rfl, rfl, hz0, hz1⟩ := hrel
    by_cases hlt : k < l.length
    · obtain ⟨x, hx⟩ : ∃ x, l[k]? = some x := ⟨_, List.getElem?_eq_getElem hlt⟩
      obtain ⟨b, off, rfl, c1, c2, hs, hs2⟩ := HC.out k x hx
      unfold maxLen at hs hs2
      go_wp2_with (go_at_call 28; refine (add_any _ _ _ _ (by omega) (by omega) (by omega) (by omega) (by omega)).mono ?_; rintro e w' (⟨rfl, rfl⟩ | ⟨n, rfl, rfl, hn, hn1⟩))
      · go_ret2
        exact ⟨0, true, rfl, rfl, by omega, by omega, fun hh => by simp at hh⟩
      · go_ret2
        exact ⟨0, true, rfl, rfl, by omega, by omega, fun hh => by simp at hh⟩
      · go_round
        case rel => exact ⟨k + 1, _, _, by omega, by go_num, rfl, rfl, by omega, by omega⟩
        case measure => simp [intOf]; omega
    · go_wp2
      go_ret2
      exact ⟨z, false, rfl, rfl, by omega, by omega, fun _ => HL.out⟩

/-- The entries of all slots, counted. -/
def entries (l : List SlotD) : Nat := (l.map fun s => s.es.length).sum

theorem entries_take_succ {l : List SlotD} {k : Nat} {x : SlotD} (h : l[k]? = some x) : entries (l.take (k + 1)) = entries (l.take k) + x.es.length := by
  unfold entries
  rw [List.take_add_one, h]
  simp

set_option maxRecDepth 50000 in
set_option maxHeartbeats 2000000 in
theorem slotsBytes_any (total : Int) (v : Value) (l : List SlotD) (w : World) (hv : SLs w v l) (ht0 : 0 ≤ total) (ht1 : total ≤ 1048576) :
    Calls Try.prog 7 #[.int .i64 total, v] w (NumBool (fun _ => l.length ≤ 16384 ∧ entries l ≤ 1048576) w) := by
  obtain ⟨p, cap, rfl, hl, hm, _, HC⟩ := hv.opened
  unfold maxLen at hm
  go_enter Try.func7, Try.ntmps7
  go_wp2_with (go_at_call 28; refine (add_any _ _ _ _ (by omega) (by omega) (by omega) (by omega) (by omega)).mono ?_; rintro e w' (⟨rfl, rfl⟩ | ⟨n, rfl, rfl, hn, hn1⟩))
  · go_ret2
    exact ⟨0, true, rfl, rfl, by omega, by omega, fun hh => by simp at hh⟩
  have HL : Hid (l.length ≤ 16384) := by
    unfold Hid; omega
  go_loop [6, 7, 8] (fun s o i => ∃ (k : Nat) (z : Int) (ob : Bool), k ≤ l.length ∧ i = .int .i64 k ∧ s = .int .i64 z ∧ o = .bool ob ∧ z ≤ 1048576 ∧ (entries (l.take k) : Int) ≤ z) (fun _ _ i => l.length - (intOf i).toNat)
  case atStart => exact ⟨0, _, _, by omega, rfl, rfl, rfl, by omega, by simp [entries]; omega⟩
  case round =>
    obtain ⟨k, z, ob, hk, rfl, rfl, rfl, hz1, hz0⟩ := hrel
    by_cases hlt : k < l.length
    · obtain ⟨x, hx⟩ : ∃ x, l[k]? = some x := ⟨_, List.getElem?_eq_getElem hlt⟩
      obtain ⟨b, off, rfl, ⟨c0, c1, c2, c3, c4⟩, hs, hfl, hnr⟩ := HC.out k x hx
      have HE : Hid (entries (l.take (k + 1)) = entries (l.take k) + x.es.length) := entries_take_succ hx
      obtain ⟨xid, xl, xle, xf, xfs, xn, xes⟩ := x
      change FL w xf xfs at hfl
      change NRL w xn xes at hnr
      obtain ⟨fp, fcap, rfl, hfl1, hfm, _, FC⟩ := hfl.opened
      obtain ⟨np, ncap, rfl, hnl1, hnm, _, NC⟩ := hnr.opened
      dsimp only at hs c0 c1 c2 c3 c4 hfl1 hfm hnl1 hnm FC NC HE
      clear hfl hnr hx
      unfold maxLen at hs hfm hnm
      generalize he : entries (l.take k) = en at *
      go_wp2_with (go_at_call 28; refine (add_any _ _ _ _ (by omega) (by omega) (by omega) (by omega) (by omega)).mono ?_; rintro e w' (⟨rfl, rfl⟩ | ⟨n, rfl, rfl, hn, hn1⟩))
      · go_ret2
        exact ⟨0, true, rfl, rfl, by omega, by omega, fun hh => by simp at hh⟩
      · go_ret2
        exact ⟨0, true, rfl, rfl, by omega, by omega, fun hh => by simp at hh⟩
      go_loop [6, 7, 9] (fun s o i => ∃ (j : Nat) (z : Int) (ob : Bool), j ≤ xfs.length ∧ i = .int .i64 j ∧ s = .int .i64 z ∧ o = .bool ob ∧ z ≤ 1048576 ∧ (en : Int) ≤ z) (fun _ _ i => xfs.length - (intOf i).toNat)
      case atStart => exact ⟨0, _, _, by omega, rfl, rfl, rfl, by omega, by omega⟩
      case round =>
        obtain ⟨j, z, ob, hj, rfl, rfl, rfl, hy1, hy0⟩ := hrel
        by_cases hjt : j < xfs.length
        · obtain ⟨y, hy⟩ : ∃ y, xfs[j]? = some y := ⟨_, List.getElem?_eq_getElem hjt⟩
          obtain ⟨fb, foff, rfl, d1, hys⟩ := FC.out j y hy
          clear hy
          unfold maxLen at hys
          go_wp2_with (go_at_call 28; refine (add_any _ _ _ _ (by omega) (by omega) (by omega) (by omega) (by omega)).mono ?_; rintro e w' (⟨rfl, rfl⟩ | ⟨n, rfl, rfl, hn, hn1⟩))
          · go_ret2
            exact ⟨0, true, rfl, rfl, by omega, by omega, fun hh => by simp at hh⟩
          · go_round
            case rel => exact ⟨j + 1, _, _, by omega, by go_num, rfl, rfl, by omega, by omega⟩
            case measure => simp [intOf]; omega
        · go_wp2_with (go_at_call 28; refine (add_any _ _ _ _ (by omega) (by omega) (by omega) (by omega) (by omega)).mono ?_; rintro e w' (⟨rfl, rfl⟩ | ⟨n, rfl, rfl, hn, hn1⟩))
          · go_ret2
            exact ⟨0, true, rfl, rfl, by omega, by omega, fun hh => by simp at hh⟩
          go_loop [6, 7, 10] (fun s o i => ∃ (j : Nat) (z : Int) (ob : Bool), j ≤ xes.length ∧ i = .int .i64 j ∧ s = .int .i64 z ∧ o = .bool ob ∧ z ≤ 1048576 ∧ (en + xes.length : Int) ≤ z) (fun _ _ i => xes.length - (intOf i).toNat)
          case atStart => exact ⟨0, _, _, by omega, rfl, rfl, rfl, by omega, by omega⟩
          case round =>
            obtain ⟨j, z, ob, hj, rfl, rfl, rfl, hy1, hy0⟩ := hrel
            by_cases hjt : j < xes.length
            · obtain ⟨y, hy⟩ : ∃ y, xes[j]? = some y := ⟨_, List.getElem?_eq_getElem hjt⟩
              obtain ⟨nb, noff, rfl, d1, d2, hys⟩ := NC.out j y hy
              clear hy
              unfold maxLen at hys
              go_wp2_with (go_at_call 28; refine (add_any _ _ _ _ (by omega) (by omega) (by omega) (by omega) (by omega)).mono ?_; rintro e w' (⟨rfl, rfl⟩ | ⟨n, rfl, rfl, hn, hn1⟩))
              · go_ret2
                exact ⟨0, true, rfl, rfl, by omega, by omega, fun hh => by simp at hh⟩
              · go_round
                case rel => exact ⟨j + 1, _, _, by omega, by go_num, rfl, rfl, by omega, by omega⟩
                case measure => simp [intOf]; omega
            · go_wp2
              go_round
              case rel => exact ⟨k + 1, _, _, by omega, by go_num, rfl, rfl, by omega, by rw [HE.out]; omega⟩
              case measure => simp [intOf]; omega
    · have HE : Hid (entries l ≤ 1048576) := by
        have : k = l.length := by omega
        rw [this, List.take_length] at hz0
        unfold Hid; omega
      go_wp2
      go_ret2
      exact ⟨z, false, rfl, rfl, by omega, by omega, fun _ => ⟨HL.out, HE.out⟩⟩

end Go.Proofs.Qxb6609165a
