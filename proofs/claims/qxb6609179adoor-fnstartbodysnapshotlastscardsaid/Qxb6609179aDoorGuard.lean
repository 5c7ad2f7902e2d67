/-
  The guards: zzBytes, zzStrBytes, zzNestedBytes, zzMin.
-/
import Derived.Test.Qxb6609179aDoorBase
import Derived.Sort.AtCall
namespace Go.Proofs.Qxb6609179aDoor
open Go.RowKit

def SomeBool (w : World) (e : Ending) (w' : World) : Prop := ∃ r : Bool, e = .returned (.bool r) ∧ w = w'

set_option maxRecDepth 50000 in
set_option maxHeartbeats 2000000 in
theorem bytes_any (kv vv : Value) (ok : Option (List ByteArray)) (vs : List (Option (List ByteArray))) (w : World) (hk : SV w kv ok) (hv : NL w vv vs) :
    Calls Tryd.prog 4 #[kv, vv] w (SomeBool w) := by
  obtain ⟨kp, kcap, rfl, hkl, hkm, -, KC⟩ := hk.opened
  obtain ⟨vp, vcap, rfl, hvl, hvm, -, VC⟩ := hv.opened
  generalize listO ok = ks at *
  clear hk hv
  unfold maxLen at hkm hvm
  go_enter Tryd.func4, Tryd.ntmps4
  go_wp2
  all_goals first | (go_ret; exact ⟨_, rfl, rfl⟩) | skip
  go_loop [5, 6] (fun s i => ∃ (k : Nat) (z : Int), k ≤ ks.length ∧ i = .int .i64 k ∧ s = .int .i64 z ∧ 0 ≤ z ∧ z ≤ 1048576) (fun _ i => ks.length - (intOf i).toNat)
  case atStart => exact ⟨0, _, by omega, rfl, rfl, by omega, by omega⟩
  case round =>
    obtain ⟨k, z, hk, rfl, rfl, hz0, hz1⟩ := hrel
    by_cases hlt : k < ks.length
    · obtain ⟨x, hx⟩ : ∃ x, ks[k]? = some x := ⟨_, List.getElem?_eq_getElem hlt⟩
      obtain ⟨b, off, rfl, c0, hs⟩ := KC.out k x hx
      clear hx
      unfold maxLen at hs
      go_wp2
      · go_ret
        exact ⟨_, rfl, rfl⟩
      · go_ret
        exact ⟨_, rfl, rfl⟩
      · go_round
        case rel => exact ⟨k + 1, _, by omega, by go_num, rfl, by omega, by omega⟩
        case measure => simp [intOf]; omega
    · go_wp2
      · go_ret
        exact ⟨_, rfl, rfl⟩
      · go_ret
        exact ⟨_, rfl, rfl⟩
      go_loop [5, 7] (fun s i => ∃ (k : Nat) (z : Int), k ≤ vs.length ∧ i = .int .i64 k ∧ s = .int .i64 z ∧ 0 ≤ z ∧ z ≤ 1048576) (fun _ i => vs.length - (intOf i).toNat)
      case atStart => exact ⟨0, _, by omega, rfl, rfl, by omega, by omega⟩
      case round =>
        obtain ⟨j, z, hj, rfl, rfl, hz0, hz1⟩ := hrel
        by_cases hjt : j < vs.length
        · obtain ⟨o, hx⟩ : ∃ o, vs[j]? = some o := ⟨_, List.getElem?_eq_getElem hjt⟩
          obtain ⟨b, off, u, rfl, c0, hsv⟩ := VC.out j o hx
          obtain ⟨up, ucap, rfl, hul, hum, -, UC⟩ := hsv.opened
          clear hx hsv
          generalize listO o = l at *
          unfold maxLen at hum
          go_wp2
          · go_ret
            exact ⟨_, rfl, rfl⟩
          · go_ret
            exact ⟨_, rfl, rfl⟩
          go_loop [5, 8] (fun s i => ∃ (k : Nat) (z : Int), k ≤ l.length ∧ i = .int .i64 k ∧ s = .int .i64 z ∧ 0 ≤ z ∧ z ≤ 1048576) (fun _ i => l.length - (intOf i).toNat)
          case atStart => exact ⟨0, _, by omega, rfl, rfl, by omega, by omega⟩
          case round =>
            obtain ⟨q, z, hq, rfl, rfl, hz0, hz1⟩ := hrel
            by_cases hqt : q < l.length
            · obtain ⟨x, hx⟩ : ∃ x, l[q]? = some x := ⟨_, List.getElem?_eq_getElem hqt⟩
              obtain ⟨ub, uoff, rfl, d0, hs⟩ := UC.out q x hx
              clear hx
              unfold maxLen at hs
              have hi1 : (q : Int) < (l.length : Int) := by omega
              go_wp2
              all_goals first
                | (go_ret; exact ⟨_, rfl, rfl⟩)
                | exact ⟨⟨q + 1, _, by omega, by go_num, rfl, by omega, by omega⟩, by simp [intOf]; omega⟩
            · go_wp2
              exact ⟨⟨j + 1, _, by omega, by go_num, rfl, by omega, by omega⟩, by simp [intOf]; omega⟩
        · go_wp2
          go_ret
          exact ⟨_, rfl, rfl⟩

/-- A short slice of short strings. -/
def Small (o : Option (List ByteArray)) : Prop := lenO o ≤ 65536 ∧ ∀ (i : Nat) x, (listO o)[i]? = some x → x.size ≤ 1048576

/-- A number up to the limit and one; within the limit the slice is short. -/
def StrNum (o : Option (List ByteArray)) (w : World) (e : Ending) (w' : World) : Prop := ∃ z : Int, e = .returned (.int .i64 z) ∧ w = w' ∧ 0 ≤ z ∧ z ≤ 1048577 ∧ (z ≤ 1048576 → Small o)

set_option maxRecDepth 50000 in
set_option maxHeartbeats 2000000 in
theorem strBytes_any (kv : Value) (ok : Option (List ByteArray)) (w : World) (hk : SV w kv ok) : Calls Tryd.prog 5 #[kv] w (StrNum ok w) := by
  have hle : lenO ok = (listO ok).length := by cases ok <;> rfl
  obtain ⟨kp, kcap, rfl, hkl, hkm, -, KC⟩ := hk.opened
  have HSM : Hid ((listO ok).length ≤ 65536 → (∀ (i : Nat) x, (listO ok)[i]? = some x → x.size ≤ 1048576) → Small ok) := fun h1 h2 => ⟨by omega, h2⟩
  generalize listO ok = ks at *
  clear hk hle
  unfold maxLen at hkm
  go_enter Tryd.func5, Tryd.ntmps5
  go_wp2
  all_goals first | (go_ret; exact ⟨_, rfl, rfl, by omega, by omega, fun h => by omega⟩) | skip
  go_loop [3, 4] (fun s i => ∃ (k : Nat) (z : Int), k ≤ ks.length ∧ i = .int .i64 k ∧ s = .int .i64 z ∧ 0 ≤ z ∧ z ≤ 1048576 ∧ 16 * (ks.length : Int) ≤ z ∧ ∀ (q : Nat) x, q < k → ks[q]? = some x → x.size ≤ 1048576) (fun _ i => ks.length - (intOf i).toNat)
  case atStart => exact ⟨0, _, by omega, rfl, rfl, by omega, by omega, by omega, fun q x hq => by omega⟩
  case round =>
    obtain ⟨k, z, hk, rfl, rfl, hz0, hz1, hz2, hall⟩ := hrel
    have HALL : Hid (∀ (q : Nat) x, q < k → ks[q]? = some x → x.size ≤ 1048576) := hall
    clear hall
    by_cases hlt : k < ks.length
    · obtain ⟨x, hx⟩ : ∃ x, ks[k]? = some x := ⟨_, List.getElem?_eq_getElem hlt⟩
      obtain ⟨b, off, rfl, c0, hs⟩ := KC.out k x hx
      have HX : Hid (ks[k]? = some x) := hx
      clear hx
      unfold maxLen at hs
      go_wp2
      · go_ret
        exact ⟨_, rfl, rfl, by omega, by omega, fun h => by omega⟩
      · go_ret
        exact ⟨_, rfl, rfl, by omega, by omega, fun h => by omega⟩
      · go_round
        case rel =>
          refine ⟨k + 1, _, by omega, by go_num, rfl, by omega, by omega, by omega, fun q y hq hy => ?_⟩
          by_cases hqk : q = k
          · subst hqk
            obtain rfl : x = y := Option.some.inj (HX.out.symm.trans hy)
            omega
          · exact HALL.out q y (by omega) hy
        case measure => simp [intOf]; omega
    · go_wp2
      go_ret
      exact ⟨_, rfl, rfl, by omega, by omega, fun h => HSM.out (by omega) fun q y hy => HALL.out q y (by have := (List.getElem?_eq_some_iff.mp hy).1; omega) hy⟩

/-- A number up to the limit and one; within the limit the slices are few and short. -/
def NestNum (vs : List (Option (List ByteArray))) (w : World) (e : Ending) (w' : World) : Prop := ∃ z : Int, e = .returned (.int .i64 z) ∧ w = w' ∧ 0 ≤ z ∧ z ≤ 1048577 ∧ (z ≤ 1048576 → vs.length ≤ 65536 ∧ ∀ (k : Nat) o, vs[k]? = some o → Small o)

set_option maxRecDepth 50000 in
set_option maxHeartbeats 2000000 in
theorem nestedBytes_any (vv : Value) (vs : List (Option (List ByteArray))) (w : World) (hv : NL w vv vs) : Calls Tryd.prog 6 #[vv] w (NestNum vs w) := by
  obtain ⟨vp, vcap, rfl, hvl, hvm, -, VC⟩ := hv.opened
  clear hv
  unfold maxLen at hvm
  go_enter Tryd.func6, Tryd.ntmps6
  go_wp2
  all_goals first | (go_ret; exact ⟨_, rfl, rfl, by omega, by omega, fun h => by omega⟩) | skip
  go_loop [3, 4] (fun s i => ∃ (k : Nat) (z : Int), k ≤ vs.length ∧ i = .int .i64 k ∧ s = .int .i64 z ∧ 0 ≤ z ∧ z ≤ 1048576 ∧ 24 * (vs.length : Int) ≤ z ∧ ∀ (q : Nat) o, q < k → vs[q]? = some o → Small o) (fun _ i => vs.length - (intOf i).toNat)
  case atStart => exact ⟨0, _, by omega, rfl, rfl, by omega, by omega, by omega, fun q o hq => by omega⟩
  case round =>
    obtain ⟨k, z, hk, rfl, rfl, hz0, hz1, hz2, hall⟩ := hrel
    have HALL : Hid (∀ (q : Nat) o, q < k → vs[q]? = some o → Small o) := hall
    clear hall
    by_cases hlt : k < vs.length
    · obtain ⟨o, hx⟩ : ∃ o, vs[k]? = some o := ⟨_, List.getElem?_eq_getElem hlt⟩
      have HX : Hid (vs[k]? = some o) := hx
      obtain ⟨b, off, u, rfl, c0, hsv⟩ := VC.out k o hx
      have HSV : Hid (SV w u o) := hsv
      obtain ⟨up, ucap, rfl, -⟩ := hsv.opened
      clear hx hsv
      go_wp2_with (go_at_call 5; refine (strBytes_any _ o w HSV.out).mono ?_; rintro e w' ⟨z2, rfl, rfl, hz20, hz21, hzz⟩; have HZ : Hid (z2 ≤ 1048576 → Small o) := hzz; clear hzz)
      · go_ret
        exact ⟨_, rfl, rfl, by omega, by omega, fun h => by omega⟩
      · go_round
        case rel =>
          refine ⟨k + 1, _, by omega, by go_num, rfl, by omega, by omega, by omega, fun q o' hq ho' => ?_⟩
          by_cases hqk : q = k
          · subst hqk
            obtain rfl : o = o' := Option.some.inj (HX.out.symm.trans ho')
            exact HZ.out (by omega)
          · exact HALL.out q o' (by omega) ho'
        case measure => simp [intOf]; omega
    · go_wp2
      go_ret
      exact ⟨_, rfl, rfl, by omega, by omega, fun h => ⟨by omega, fun q o ho => HALL.out q o (by have := (List.getElem?_eq_some_iff.mp ho).1; omega) ho⟩⟩

set_option maxHeartbeats 1000000 in
theorem min_any (a b : Nat) (w : World) : Calls Tryd.prog 9 #[.int .i64 a, .int .i64 b] w (fun e w' => e = .returned (.int .i64 ((min a b : Nat) : Int)) ∧ w = w') := by
  go_enter Tryd.func9, Tryd.ntmps9
  by_cases h : a < b
  · have hm : min a b = a := by omega
    rw [hm]
    go_wp2
    go_ret
    exact ⟨rfl, rfl⟩
  · have hm : min a b = b := by omega
    rw [hm]
    go_wp2
    go_ret
    exact ⟨rfl, rfl⟩

end Go.Proofs.Qxb6609179aDoor
