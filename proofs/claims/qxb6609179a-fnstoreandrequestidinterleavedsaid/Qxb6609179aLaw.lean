/-
  FnStoreAndRequestIDInterleaved: the walk.
-/
import Derived.Test.Qxb6609179aPlain
import Derived.Test.Qxb6609179aGuard
import Derived.Deep.RegionHeld3
import Derived.Sort.AtCall
namespace Go.Proofs.Qxb6609179a
open Go.RowKit

theorem ret_true {a : Bool} (h : a = true) : Ending.returned (.bool a) = .returned (.bool true) := by rw [h]

/-- It says true, and writes nothing that stood. -/
def SaysTrue (w : World) (e : Ending) (w' : World) : Prop := e = .returned (.bool true) ∧ Below w.heap.size w w'

theorem info4 : (Try.prog.info? 4).map (fun i => (i.zero, i.size, i.bytes)) = some (some (.bool false), 1, 1) := by kernel_rfl
theorem zero4 (w : World) : (zeroValue 4).run Try.prog w = .ok (.bool false) w := by
  obtain ⟨i0, hi0, hz0, _⟩ := info_parts info4
  simp [zeroValue, typeInfo, hi0, hz0, Result.andThen]

set_option maxRecDepth 50000 in
set_option maxHeartbeats 4000000 in
theorem law (pr : ByteArray) (bv kv vv : Value) (bl : List Bool) (ks vs : List ByteArray) (w : World) (hp : pr.size ≤ maxLen) (hb : BL w bv bl) (hk : FL w kv ks) (hv : FL w vv vs) :
    Calls Try.prog 3 #[.string pr, bv, kv, vv] w (SaysTrue w) := by
  have HBL : Hid (BL w bv bl) := hb
  have HKL : Hid (FL w kv ks) := hk
  have HVL : Hid (FL w vv vs) := hv
  obtain ⟨bp, bcap, rfl, hbl, hbm, -, BC⟩ := hb.opened
  obtain ⟨kp, kcap, rfl, hkl, hkm, -, KC⟩ := hk.opened
  obtain ⟨vp, vcap, rfl, hvl, hvm, -, VC⟩ := hv.opened
  have HP : Hid (pr.size ≤ maxLen) := hp
  clear hb hk hv
  unfold maxLen at hp hbm hkm hvm
  go_enter Try.func3, Try.ntmps3
  go_wp2_with (first
    | (go_at_call 4; refine (bytes_any _ _ _ _ bl ks vs _ HP.out HBL.out HKL.out HVL.out).mono ?_; rintro e w' ⟨r, rfl, rfl⟩; cases r)
    | (go_at_call_has 5 kp; refine (strBytes_any _ ks _ HKL.out).mono ?_; rintro e w' ⟨z1, rfl, rfl, hz10, hz11⟩)
    | (go_at_call_has 5 vp; refine (strBytes_any _ vs _ HVL.out).mono ?_; rintro e w' ⟨z2, rfl, rfl, hz20, hz21⟩)
    | (go_at_call 6; refine (min_any _ _ _).mono ?_; rintro e w' ⟨rfl, rfl⟩)
    | (go_at_call 7; refine (new_any _ _).mono ?_; rintro e w2 ⟨rfl, hb2, hcx⟩; have HC2 : Hid (Below w.heap.size w w2 ∧ Ctx w2 w.heap.size (.map none) pr) := ⟨hb2, hcx⟩; clear hb2 hcx))
  all_goals first | (go_ret; exact ⟨rfl, Below.refl _ _⟩) | skip
  generalize hn : min ks.length (min vs.length bl.length) = n at *
  have hnk : n ≤ ks.length := by omega
  have hnv : n ≤ vs.length := by omega
  have hnb : n ≤ bl.length := by omega
  clear hn
  generalize hC : w.heap.size = C at *
  go_loopw [13] (fun iv wr => Below w.heap.size w wr ∧ ∃ (i : Nat) (mv : Value) (m : Nat), i ≤ n ∧ iv = .int .i64 i ∧ Ctx wr C mv (idAt pr bl vs i) ∧ Vals w.heap.size wr C mv (fAt bl ks vs i) m) (fun iv _ => n - (intOf iv).toNat)
  case atStart => exact ⟨by rw [hC]; exact HC2.out.1, 0, .map none, 0, by omega, rfl, HC2.out.2, .inl ⟨rfl, fun _ => rfl, rfl⟩⟩
  case round =>
    obtain ⟨hb, i, mv, m, hi, rfl, hcx, hva⟩ := hrel
    have HB : Hid (Below w.heap.size w wr) := hb
    have HX : Hid (Ctx wr C mv (idAt pr bl vs i)) := hcx
    have HV : Hid (Vals w.heap.size wr C mv (fAt bl ks vs i) m) := hva
    clear hb hcx hva
    by_cases hlt : i < n
    · obtain ⟨b, hbi⟩ : ∃ b, bl[i]? = some b := ⟨_, List.getElem?_eq_getElem (by omega)⟩
      obtain ⟨k, hki⟩ : ∃ k, ks[i]? = some k := ⟨_, List.getElem?_eq_getElem (by omega)⟩
      obtain ⟨v, hvi⟩ : ∃ v, vs[i]? = some v := ⟨_, List.getElem?_eq_getElem (by omega)⟩
      obtain ⟨bb, boff, rfl, cb⟩ := BC.out i b hbi
      obtain ⟨kb, koff, rfl, ck, -⟩ := KC.out i k hki
      obtain ⟨vb, voff, rfl, cv, -⟩ := VC.out i v hvi
      have HKV : Hid (∀ W, Below w.heap.size w W → W.cell? ⟨kb, koff + i, none⟩ = some (.string k) ∧ W.cell? ⟨vb, voff + i, none⟩ = some (.string v)) := fun W hW => ⟨cell_later hW ck, cell_later hW cv⟩
      replace cb := cell_later HB.out cb
      replace ck := cell_later HB.out ck
      replace cv := cell_later HB.out cv
      have hi1 : (i : Int) < (ks.length : Int) := by omega
      have hi2 : (i : Int) < (vs.length : Int) := by omega
      have hi3 : (i : Int) < (bl.length : Int) := by omega
      cases b
      · have HNX : Hid (idAt pr bl vs (i + 1) = idAt pr bl vs i ∧ fAt bl ks vs (i + 1) = upd (fAt bl ks vs i) k (strVal v)) := ⟨idAt_keep hbi, fAt_put hbi hki hvi⟩
        have HST : Hid (Calls Try.prog 9 #[.pointer (some ⟨C, 0, none⟩), .string k, .string v] wr.drew (StoreRes w.heap.size C (idAt pr bl vs i) k v (fAt bl ks vs i) m wr.drew)) := storeString_any w.heap.size C mv _ k v _ m wr.drew (by omega) (HX.out.at rfl) (HV.out.below (Below.refl _ _).drew)
        clear hbi hki hvi
        go_wp2_with fail
        go_region_held3 (fun w' => w'.cell? ⟨kb, koff + i, none⟩ = some (.string k) ∧ w'.cell? ⟨vb, voff + i, none⟩ = some (.string v))
          (first | go_keep | exact HKV.out _ (HB.out.drew.trans hb3)) ((go_at_call 9; refine HST.out.mono ?_; rintro e w3 ⟨rfl, hb3, mv3, hcx3, hva3⟩))
        go_wp2
        exact ⟨⟨HB.out.drew.trans hb3, i + 1, mv3, _, by omega, by go_num, by rw [HNX.out.1]; exact hcx3, by rw [HNX.out.2]; exact hva3⟩, by simp [intOf]; omega⟩
      · have HNX : Hid (idAt pr bl vs (i + 1) = v ∧ fAt bl ks vs (i + 1) = fAt bl ks vs i) := ⟨idAt_set hbi hvi, fAt_keep hbi⟩
        have HST : Hid (Calls Try.prog 8 #[.pointer (some ⟨C, 0, none⟩), .string v] wr (fun e w' => e = .returned (.tuple #[]) ∧ w' = wr.setCell ⟨C, 10, none⟩ (.string v))) := setID_any C mv _ v wr HX.out
        clear hbi hki hvi
        go_wp2_with (go_at_call 8; refine HST.out.mono ?_; rintro e w3 ⟨rfl, rfl⟩)
        refine ⟨⟨HB.out.setCell (p := ⟨C, 10, none⟩) (by simp; omega) _, i + 1, mv, m, by omega, by go_num, by rw [HNX.out.1]; exact HX.out.set10 v, ?_⟩, by simp [intOf]; omega⟩
        rw [HNX.out.2]
        rcases HV.out with h | ⟨M, h1, h2, h3, h4⟩
        · exact .inl h
        · exact .inr ⟨M, h1, h2, h3, h4.same (Below.heap_setCell _ _ _ _ (by simpa using h2))⟩
    · obtain rfl : i = n := by omega
      clear HBL HKL HVL HP HC2 hz10 hz11 hz20 hz21
      have hmm := @run_makeMap Try.prog
      go_wp2
      go_loop [14, 15] (fun wv iv => wv = .string pr ∧ ∃ (j : Nat) (z : Int), j ≤ i ∧ iv = .int .i64 z ∧ z + 1 = (j : Int) ∧ idAt pr bl vs i = idAt pr bl vs j) (fun _ iv => (intOf iv + 1).toNat)
      case atStart => exact ⟨rfl, i, _, by omega, rfl, by omega, rfl⟩
      case round =>
        obtain ⟨rfl, j, z, hj, rfl, hz, hid⟩ := hrel
        have HID : Hid (idAt pr bl vs i = idAt pr bl vs j) := hid
        clear hid
        have hcase : (∃ q, j = q + 1 ∧ bl[q]? = some false) ∨ ∃ x : ByteArray, (j = 0 ∧ pr = x) ∨ ∃ q, j = q + 1 ∧ bl[q]? = some true ∧ vs[q]? = some x := by
          rcases j with _ | q
          · exact .inr ⟨pr, .inl ⟨rfl, rfl⟩⟩
          · obtain ⟨b, hb⟩ : ∃ b, bl[q]? = some b := ⟨_, List.getElem?_eq_getElem (by omega)⟩
            obtain ⟨v, hv⟩ : ∃ v, vs[q]? = some v := ⟨_, List.getElem?_eq_getElem (by omega)⟩
            cases b
            · exact .inl ⟨q, rfl, hb⟩
            · exact .inr ⟨v, .inr ⟨q, rfl, hb, hv⟩⟩
        rcases hcase with ⟨q, rfl, hbq⟩ | ⟨x, hx⟩
        · obtain rfl : z = (q : Int) := by omega
          obtain ⟨bb, boff, rfl, cb⟩ := BC.out q _ hbq
          replace cb := cell_later HB.out cb
          have HKE : Hid (idAt pr bl vs (q + 1) = idAt pr bl vs q) := idAt_keep hbq
          clear hbq
          go_wp2
          go_round
          case rel => exact ⟨rfl, q, _, by omega, rfl, by omega, HID.out.trans HKE.out⟩
          case measure => simp [intOf]
        · have HGI : Hid (Calls Try.prog 10 #[.pointer (some ⟨C, 0, none⟩)] wr (fun e w' => e = .returned (.string x) ∧ wr = w')) := by
            have h1 := getID_any C mv _ wr HX.out
            have h2 : idAt pr bl vs i = x := by
              rw [HID.out]
              rcases hx with ⟨rfl, rfl⟩ | ⟨q, rfl, hb, hv⟩
              · rfl
              · exact idAt_set hb hv
            rw [h2] at h1
            exact h1.mono fun _ _ h => ⟨h.1, h.2.symm⟩
          obtain ⟨w0, rfl⟩ : ∃ w0, w0 = wr := ⟨_, rfl⟩
          have hbnd : (i : Int) ≤ (ks.length : Int) ∧ (i : Int) ≤ (vs.length : Int) ∧ (i : Int) ≤ (bl.length : Int) := ⟨by omega, by omega, by omega⟩
          rcases hx with ⟨rfl, rfl⟩ | ⟨q, rfl, hbq, hvq⟩
          rotate_left
          obtain rfl : z = (q : Int) := by omega
          obtain ⟨bb, boff, rfl, cb⟩ := BC.out q _ hbq
          obtain ⟨vb, voff, rfl, cv, -⟩ := VC.out q _ hvq
          replace cb := cell_later HB.out cb
          replace cv := cell_later HB.out cv
          clear hbq hvq
          have hi2 : (q : Int) < (vs.length : Int) := by omega
          have hi3 : (q : Int) < (bl.length : Int) := by omega
          all_goals
            go_wp2_with (go_at_call 10; refine HGI.out.mono ?_; rintro e w' ⟨rfl, rfl⟩)
            generalize hS : w0.heap.size = S at *
            go_loopw [17, 18] (fun dv iv wx => Below S w0 wx ∧ ∃ (j d : Nat) (z : Int) (g : ByteArray → Option Value), j ≤ i ∧ d + j ≤ i ∧ iv = .int .i64 z ∧ z + 1 = (j : Int) ∧ dv = .int .i64 d ∧ MapIs wx S g d ∧ SeenFrom bl ks j i g) (fun _ iv _ => (intOf iv + 1).toNat)
            case atStart => exact ⟨(Below.refl _ _).alloc (by omega) _, i, 0, _, _, by omega, by omega, rfl, by omega, rfl, by rw [← hS]; exact MapIs.made w0, SeenFrom.start bl ks i⟩
            case round =>
              clear HGI HID
              obtain ⟨hbx, j, d, z, g, hj, hdj, rfl, hz, rfl, hM, hse⟩ := hrel
              have HBX : Hid (Below S w0 wr) := hbx
              have HSE : Hid (SeenFrom bl ks j i g) := hse
              have HBW : Hid (Below w.heap.size w wr) := HB.out.trans (hbx.mono (by rw [← hS]; exact HB.out.size))
              have hbx' : Below w0.heap.size w0 wr := by rw [hS]; exact hbx
              have HX3 : Hid (Ctx wr C mv (idAt pr bl vs i)) := HX.out.later hbx'
              have HV3 : Hid (Vals w.heap.size wr C mv (fAt bl ks vs i) m) := HV.out.below hbx'
              clear hbx hbx' hse
              rcases j with _ | q
              · obtain rfl : z = -1 := by omega
                have hmd : m = d := sizes HV3.out hM HSE.out hnv
                have HVL : Hid (Calls Try.prog 12 #[.pointer (some ⟨C, 0, none⟩)] wr (fun e w' => e = .returned (.int .i64 m) ∧ w' = wr)) := valuesLen_any w.heap.size C mv _ _ m wr HX3.out HV3.out
                subst hmd
                clear hM
                go_wp2_with (go_at_call 12; refine HVL.out.mono ?_; rintro e w' ⟨rfl, rfl⟩)
                go_ret
                exact ⟨rfl, HBW.out⟩
              · obtain rfl : z = (q : Int) := by omega
                obtain ⟨b, hbq⟩ : ∃ b, bl[q]? = some b := ⟨_, List.getElem?_eq_getElem (by omega)⟩
                obtain ⟨k, hkq⟩ : ∃ k, ks[q]? = some k := ⟨_, List.getElem?_eq_getElem (by omega)⟩
                obtain ⟨v, hvq⟩ : ∃ v, vs[q]? = some v := ⟨_, List.getElem?_eq_getElem (by omega)⟩
                obtain ⟨bb', boff', eb, cb'⟩ := BC.out q b hbq
                obtain ⟨kb', koff', ek, ck', -⟩ := KC.out q k hkq
                obtain ⟨vb', voff', ev, cv', -⟩ := VC.out q v hvq
                have HKV : Hid (∀ W, Below S w0 W → W.cell? ⟨kb', koff' + q, none⟩ = some (.string k) ∧ W.cell? ⟨vb', voff' + q, none⟩ = some (.string v)) := fun W hW => by
                  have hww := HB.out.trans (hW.mono (by rw [← hS]; exact HB.out.size))
                  exact ⟨cell_later hww ck', cell_later hww cv'⟩
                replace cb' := cell_later HBW.out cb'
                obtain ⟨ck, cv⟩ := HKV.out wr HBX.out
                clear ck' cv'
                have hi1 : (q : Int) < (ks.length : Int) := by omega
                have hi2 : (q : Int) < (vs.length : Int) := by omega
                have hi3 : (q : Int) < (bl.length : Int) := by omega
                cases eb
                cases ek
                cases ev
                cases b
                · have HLA := HSE.out.2 k
                  rcases HSE.out.1 k with hg | hg
                  · have hlk := hM.look Try.underlying32 Try.underlying9 (zero4 wr) k false
                    simp only [Bool.false_eq_true, if_false, hg, Option.getD_none] at hlk
                    obtain ⟨w3, hrun, hM3, ht3⟩ := hM.store Try.underlying32 Try.underlying9 k (.bool true)
                    rw [hg] at hM3
                    simp only [Option.isSome_none, Bool.false_eq_true, if_false] at hM3
                    have hb3 : Below S w0 w3 := HBX.out.trans (turned_below ht3 (Nat.le_refl _))
                    have hb3' : Below w0.heap.size w0 w3 := by rw [hS]; exact hb3
                    have hlast : fAt bl ks vs i k = some (strVal v) := fAt_last hbq hkq hvq hnv i (Nat.le_refl _) (by omega) (HSE.out.fresh (by rw [hg]; rfl))
                    have HGS : Hid (Calls Try.prog 11 #[.pointer (some ⟨C, 0, none⟩), .string k] w3 (fun e w' => e = .returned (.tuple #[.string v, .bool true]) ∧ Below w3.heap.size w3 w')) := getString_any w.heap.size C mv _ k v _ m w3 (HX.out.later hb3') (HV.out.below hb3') hlast
                    have HNS : Hid (SeenFrom bl ks q i (upd g k (.bool true))) := HSE.out.put (by omega) hbq hkq
                    have HM3 : Hid (MapIs w3 S (upd g k (.bool true)) (d + 1)) := hM3
                    have HB3 : Hid (Below S w0 w3) := hb3
                    obtain ⟨ck3, cv3⟩ := HKV.out w3 hb3
                    clear hbq hkq hvq hM hM3 ht3 hb3 hb3' hlast HLA hg HX3 HV3
                    go_wp2_with (go_at_call 11; refine HGS.out.mono ?_; rintro e w4 ⟨rfl, hb4⟩; have HB4 : Hid (Below S w0 w4 ∧ MapIs w4 S (upd g k (.bool true)) (d + 1)) := ⟨HB3.out.trans (hb4.mono (by have := HM3.out.lt; omega)), HM3.out.same (hb4.block _ HM3.out.lt)⟩; obtain ⟨ck4, cv4⟩ := HKV.out w4 HB4.out.1; clear hb4)
                    exact ⟨⟨HB4.out.1, q, d + 1, _, _, by omega, by omega, rfl, by omega, by go_num, HB4.out.2, HNS.out⟩, by simp [intOf]⟩
                  · have hlk := hM.look Try.underlying32 Try.underlying9 (zero4 wr) k false
                    simp only [Bool.false_eq_true, if_false, hg, Option.getD_some] at hlk
                    have HNS : Hid (SeenFrom bl ks q i g) := HSE.out.again hkq (by rw [hg]; rfl)
                    have HM : Hid (MapIs wr S g d) := hM
                    clear hbq hkq hvq hM HLA hg HX3 HV3
                    go_wp2
                    exact ⟨⟨HBX.out, q, d, _, _, by omega, by omega, rfl, by omega, rfl, HM.out, HNS.out⟩, by simp [intOf]⟩
                · have HNS : Hid (SeenFrom bl ks q i g) := HSE.out.skip hbq
                  have HM : Hid (MapIs wr S g d) := hM
                  clear hbq hkq hvq hM HX3 HV3
                  go_wp2
                  exact ⟨⟨HBX.out, q, d, _, _, by omega, by omega, rfl, by omega, rfl, HM.out, HNS.out⟩, by simp [intOf]⟩

end Go.Proofs.Qxb6609179a
