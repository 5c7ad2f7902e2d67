/-
  zzSortedNotReady.
-/
import Derived.Test.Qxb6609165aClosures
import Derived.Sort.Walk0
import Derived.Lib.Strings
namespace Go.Proofs.Qxb6609165a
open Go.RowKit

/-- zzSortedNotReady: where it says true, every slot's list ascends. -/
def SortedRes (l : List SlotD) (w : World) (e : Ending) (w' : World) : Prop := ∃ r : Bool, e = .returned (.bool r) ∧ Below w.heap.size w w' ∧ (r = true → ∀ s ∈ l, Asc s.es)

set_option maxRecDepth 50000 in
set_option maxHeartbeats 2000000 in
theorem sorted_any (v : Value) (l : List SlotD) (w : World) (hv : SLs w v l) (hes : ∀ s ∈ l, s.es.length ≤ 1048576) :
    Calls Try.prog 16 #[v] w (SortedRes l w) := by
  obtain ⟨p, cap, rfl, hl, hm, _, HC⟩ := hv.opened
  have HE : Hid (∀ s ∈ l, s.es.length ≤ 1048576) := hes
  clear hv hes
  unfold maxLen at hm
  go_enter Try.func16, Try.ntmps16
  go_wp2
  go_loopw [3] (fun iv wr => Below w.heap.size w wr ∧ ∃ (i : Nat), i ≤ l.length ∧ iv = .int .i64 i ∧ ∀ k s, k < i → l[k]? = some s → Asc s.es) (fun iv _ => l.length - (intOf iv).toNat)
  case atStart => exact ⟨Below.refl _ _, 0, by omega, rfl, fun k s hk => by omega⟩
  case round =>
    obtain ⟨hb, i, hi, rfl, hasc⟩ := hrel
    have HB : Hid (Below w.heap.size w wr) := hb
    have HA : Hid (∀ k s, k < i → l[k]? = some s → Asc s.es) := hasc
    clear hb hasc
    by_cases hlt : i < l.length
    · obtain ⟨s, hsi⟩ : ∃ s, l[i]? = some s := ⟨_, List.getElem?_eq_getElem hlt⟩
      obtain ⟨b, off, rfl, ⟨_, _, _, _, c4⟩, _, _, hnr⟩ := HC.out i s hsi
      have HSI : Hid (l[i]? = some s) := hsi
      obtain ⟨np, ncap, hnv, hnl, hnm, _, NC⟩ := hnr.opened
      rw [hnv] at c4
      have hel : s.es.length ≤ 1048576 := HE.out s (List.mem_of_getElem? hsi)
      have HC4 : Hid (w.cell? ⟨b, off + i * 5 + 4, none⟩ = some (.slice np s.es.length ncap)) := c4
      clear hnr hnv hsi c4
      unfold maxLen at hnm
      go_wp2
      go_loopw [4] (fun jv wr => Below w.heap.size w wr ∧ ∃ (j : Nat), 1 ≤ j ∧ (j ≤ s.es.length ∨ j = 1) ∧ jv = .int .i64 j ∧ ∀ k x y, k + 1 < j → s.es[k]? = some x → s.es[k + 1]? = some y → x.1.data.toList < y.1.data.toList) (fun jv _ => s.es.length - (intOf jv).toNat)
      case atStart => exact ⟨HB.out, 1, by omega, .inr rfl, rfl, fun k x y hk => by omega⟩
      case round =>
        clear HB
        obtain ⟨hb, j, hj1, hj2, rfl, hadj⟩ := hrel
        have HB : Hid (Below w.heap.size w wr) := hb
        have HJ : Hid (∀ k x y, k + 1 < j → s.es[k]? = some x → s.es[k + 1]? = some y → x.1.data.toList < y.1.data.toList) := hadj
        clear hb hadj
        have c4 := cell_later HB.out HC4.out
        by_cases hjt : j < s.es.length
        · obtain ⟨j, rfl⟩ : ∃ j', j = j' + 1 := ⟨j - 1, by omega⟩
          obtain ⟨xa, xs, hx⟩ := get_nr (c := s.es) (i := j) (by omega)
          obtain ⟨ya, ys, hy⟩ := get_nr hjt
          obtain ⟨nb, noff, rfl, d1, _⟩ := NC.out j _ hx
          obtain ⟨nb', noff', e', d2, _⟩ := NC.out (j + 1) _ hy
          injection e' with e'
          injection e' with e1 e2
          subst e1 e2
          have HXY : Hid (s.es[j]? = some (xa, xs) ∧ s.es[j + 1]? = some (ya, ys)) := ⟨hx, hy⟩
          replace d1 := cell_later HB.out d1
          replace d2 := cell_later HB.out d2
          dsimp only at d1 d2
          clear hx hy
          have w1 : IntKind.i64.wrap (((j + 1 : Nat) : Int) - 1) = (j : Int) := by rw [IntWalk.i64_left, IntWalk.wrap64_in] <;> omega
          go_wp2_with fail
          go_quiet (fail)
          have hbd : Below w.heap.size w (wr.drewN nq) := below_drewN HB.out nq
          generalize wr.drewN nq = w5 at *
          cases hbl : Op.bytesLess xa.toList ya.toList
          · go_wp2
            go_ret
            exact ⟨false, rfl, hbd, fun h => by simp at h⟩
          · have HL : Hid (xa.data.toList < ya.data.toList) := by
              rw [Proofs.bytesLess_eq, Lib.toList_data, Lib.toList_data] at hbl
              unfold Hid
              exact of_decide_eq_true hbl
            go_wp2
            go_roundw
            case rel =>
              refine ⟨hbd, j + 2, by omega, .inl (by omega), by go_num, fun k x y hk hx hy => ?_⟩
              by_cases hkj : k = j
              · subst hkj
                obtain rfl : (xa, xs) = x := Option.some.inj (HXY.out.1.symm.trans hx)
                obtain rfl : (ya, ys) = y := Option.some.inj (HXY.out.2.symm.trans hy)
                exact HL.out
              · exact HJ.out k x y (by omega) hx hy
            case measure => simp [intOf]; omega
        · go_wp2
          refine ⟨⟨HB.out, i + 1, by omega, by go_num, fun k s' hk hs' => ?_⟩, by simp [intOf]; omega⟩
          by_cases hki : k = i
          · subst hki
            obtain rfl : s = s' := Option.some.inj (HSI.out.symm.trans hs')
            refine asc_of_adj _ fun m x y hx hy => HJ.out m x y ?_ hx hy
            have := (List.getElem?_eq_some_iff.mp hy).1
            omega
          · exact HA.out k s' (by omega) hs'
    · obtain rfl : i = l.length := by omega
      go_wp2
      go_ret
      refine ⟨true, rfl, HB.out, fun _ s hs => ?_⟩
      obtain ⟨k, hk⟩ := List.mem_iff_getElem?.mp hs
      exact HA.out k s (List.getElem?_eq_some_iff.mp hk).1 hk

end Go.Proofs.Qxb6609165a
