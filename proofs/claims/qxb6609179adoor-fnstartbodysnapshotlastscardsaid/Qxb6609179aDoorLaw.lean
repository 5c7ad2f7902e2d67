/-
  FnStartBodySnapshotLasts: the walk where the keys are not nil.
-/
import Derived.Test.Qxb6609179aDoorWeak
namespace Go.Proofs.Qxb6609179aDoor
open Go.RowKit Go.MapKept

/-- What stands behind the first StartBody. -/
structure Sent (w w6 : World) (kv : Value) (ks : List ByteArray) (F : ByteArray → Option (Option (List ByteArray))) (C D X R M1 M2 M3 : Nat) : Prop where
  below : Below w.heap.size w w6
  keys : ∃ hi, hi ≤ C ∧ SV w6 kv (some ks) ∧ Within 0 hi kv
  want : ∃ lo n, HdrIn lo C w6 M1 F n
  head : Weak C D M2 1048576 w6
  held : Held w6 X R (.map (some M2)) (.map (some M3)) 200
  sent : ∃ lo n, D ≤ lo ∧ HdrIn lo w6.heap.size w6 M3 F n
  low : w.heap.size ≤ C
  cd : C ≤ D
  rx : D ≤ R ∧ D ≤ X
  size : D ≤ w6.heap.size

theorem sent_of {w w1 w2 w3 w4 w5 w6 : World} {kv : Value} {ks : List ByteArray} {F : ByteArray → Option (Option (List ByteArray))} {M1 M2 M3 m1 m2 n3 : Nat} (h1 : Below w.heap.size w w1) (hk : SV w1 kv (some ks)) (hkw : Within 0 w1.heap.size kv) (h2 : Below w1.heap.size w1 w2) (h3 : Below w2.heap.size w2 w3) (hw : HdrOwn w2.heap.size w3 M1 F m1)
    (h4 : Below w3.heap.size w3 w4) (hh : HdrOwn w3.heap.size w4 M2 F m2) (h5 : Below w4.heap.size w4 w5) (hz : w5.heap.size = w4.heap.size + 2) (h6 : Below (w4.heap.size + 1) w5 w6) (hheld : Held w6 (w4.heap.size + 1) w4.heap.size (.map (some M2)) (.map (some M3)) 200) (hs : HdrIn w5.heap.size w6.heap.size w6 M3 F n3) (hS : ∀ s o, F s = some o → ∀ (i : Nat) x, (listO o)[i]? = some x → x.size ≤ 1048576) :
    Sent w w6 kv ks F w3.heap.size w4.heap.size (w4.heap.size + 1) w4.heap.size M1 M2 M3 := by
  have s1 := h1.size
  have s2 := h2.size
  have s3 := h3.size
  have s4 := h4.size
  have s5 := h5.size
  have s6 := h6.size
  have b46 : Below w4.heap.size w4 w6 := h5.trans (h6.mono (by omega))
  have b36 : Below w3.heap.size w3 w6 := h4.trans (b46.mono (by omega))
  have b26 : Below w2.heap.size w2 w6 := h3.trans (b36.mono (by omega))
  have b16 : Below w1.heap.size w1 w6 := h2.trans (b26.mono (by omega))
  exact ⟨h1.trans (b16.mono (by omega)), ⟨w1.heap.size, by omega, hk.later b16, hkw⟩, ⟨_, _, hw.inn.stand (Below.stands b36 (Nat.le_refl _))⟩, (hh.weak hS).stand (Below.stands b46 (Nat.le_refl _)), hheld, ⟨_, _, by omega, hs⟩, by omega, by omega, ⟨Nat.le_refl _, by omega⟩, by omega⟩

set_option maxRecDepth 50000 in
set_option maxHeartbeats 4000000 in
theorem law_some (kv vv : Value) (ks : List ByteArray) (vs : List (Option (List ByteArray))) (w : World) (hk : SV w kv (some ks)) (hv : NL w vv vs) :
    Calls Tryd.prog 3 #[kv, vv] w (SaysTrue w) := by
  have HV : Hid (NL w vv vs) := hv
  have HK : Hid (SV w kv (some ks)) := hk
  obtain ⟨vp, vcap, rfl, hvl, hvm, -, -⟩ := hv.opened
  obtain ⟨kp, kcap, rfl, hkl, hkm, -, -⟩ := hk.opened
  clear hv hk
  unfold maxLen at hvm hkm
  simp only [listO] at HK hkl ⊢
  have q30 := neqmap30
  go_enter Tryd.func3, Tryd.ntmps3
  go_wp2_with (first
    | (go_at_call 4; refine (bytes_any _ _ (some ks) vs _ HK.out HV.out).mono ?_; rintro e w' ⟨r, rfl, rfl⟩; cases r)
    | (go_at_call 5; refine (strBytes_any _ (some ks) _ HK.out).mono ?_; rintro e w' ⟨z1, rfl, rfl, hz10, hz11, hzk⟩; have HZK : Hid (z1 ≤ 1048576 → ks.length ≤ 65536) := fun h => (hzk h).1; clear hzk)
    | (go_at_call 6; refine (nestedBytes_any _ vs _ HV.out).mono ?_; rintro e w' ⟨z2, rfl, rfl, hz20, hz21, hzz⟩; have HZ : Hid (z2 ≤ 1048576 → vs.length ≤ 65536 ∧ ∀ (k : Nat) o, vs[k]? = some o → Small o) := hzz; clear hzz)
    | (go_at_call 7; refine (cloneStrings_any _ (some ks) _ HK.out (HZK.out (by omega))).mono ?_; rintro e w1 ⟨v1, rfl, hb1, hs1, ho1⟩; have HK1 : Hid (Below w.heap.size w w1 ∧ SV w1 v1 (some ks) ∧ Within 0 w1.heap.size v1) := ⟨hb1, hs1, fun a k c e => ⟨Nat.zero_le _, (ho1.within a k c e).2⟩⟩; obtain ⟨⟨ka1, kc1, rfl⟩, -⟩ := (show SV w1 v1 (some ks) from hs1); clear hb1 hs1 ho1)
    | (go_at_call 8; refine (cloneNested_any _ vs _ (HV.out.later HK1.out.1) (HZ.out (by omega)).1 (fun k o h => ((HZ.out (by omega)).2 k o h).1)).mono ?_; rintro e w2 ⟨v2, rfl, hb2, hs2⟩; have HV2 : Hid (NL w2 v2 vs ∧ Below w1.heap.size w1 w2) := ⟨hs2, hb2⟩; obtain ⟨vp2, vc2, rfl, -⟩ := hs2.opened; clear hb2 hs2)
    | (go_at_call 9; refine (min_any ks.length vs.length _).mono ?_; rintro e w' ⟨rfl, rfl⟩)
    | (go_at_call 10; have t := HW1; clear t; refine (build_any _ _ (some ks) vs (min ks.length vs.length) _ ((HK1.out.2.1.later HV2.out.2).later HW1.out.1) (HV2.out.1.later HW1.out.1) (Nat.min_le_left _ _) (Nat.min_le_right _ _) (fun k o h => ((HZ.out (by omega)).2 k o h).1)).mono ?_; rintro e w4 (⟨hne, -⟩ | ⟨M2, m2, -, rfl, hb4, hh4, hm4⟩); (cases hne); have HW2 : Hid (Below w3.heap.size w3 w4 ∧ HdrOwn w3.heap.size w4 M2 (FAt ks vs (min ks.length vs.length)) m2 ∧ m2 ≤ min ks.length vs.length) := ⟨hb4, hh4, hm4⟩; clear hb4 hh4 hm4)
    | (go_at_call 10; refine (build_any _ _ (some ks) vs (min ks.length vs.length) _ (HK1.out.2.1.later HV2.out.2) HV2.out.1 (Nat.min_le_left _ _) (Nat.min_le_right _ _) (fun k o h => ((HZ.out (by omega)).2 k o h).1)).mono ?_; rintro e w3 (⟨hne, -⟩ | ⟨M1, m1, -, rfl, hb3, hh3, -⟩); (cases hne); have HW1 : Hid (Below w2.heap.size w2 w3 ∧ HdrOwn w2.heap.size w3 M1 (FAt ks vs (min ks.length vs.length)) m1) := ⟨hb3, hh3⟩; clear hb3 hh3)
    | (go_at_call 11; refine (new_any (some M2) _).mono ?_; rintro e w5 ⟨rfl, hb5, hz5, hheld⟩; have HW3 : Hid (Below w4.heap.size w4 w5 ∧ w5.heap.size = w4.heap.size + 2 ∧ Held w5 (w4.heap.size + 1) w4.heap.size (.map (some M2)) (.map none) 0) := ⟨hb5, hz5, hheld⟩; clear hb5 hz5 hheld)
    | (go_at_call 12; refine (startBody_first _ _ _ _ (FAt ks vs (min ks.length vs.length)) _ HW3.out.2.2 (by omega) (.inr ⟨M2, m2, rfl, HW2.out.2.1.inn.hdr.later HW3.out.1, by have := HW2.out.2.2; have := HZK.out (by omega); omega⟩) (FAt_all (P := fun o => lenO o ≤ 65536) (fun k o h => ((HZ.out (by omega)).2 k o h).1) _)).mono ?_; rintro e w6 ⟨rfl, hb6, sv6, hh6, hs6⟩; obtain ⟨hx, -⟩ | ⟨M2', M3, n3, -, rfl, hs6⟩ := hs6; (cases hx); have HS : Hid (Sent w w6 (.slice (some ka1) ks.length kc1) ks (FAt ks vs (min ks.length vs.length)) w3.heap.size w4.heap.size (w4.heap.size + 1) w4.heap.size M1 M2 M3) := sent_of HK1.out.1 HK1.out.2.1 HK1.out.2.2 HV2.out.2 HW1.out.1 HW1.out.2 HW2.out.1 HW2.out.2.1 HW3.out.1 HW3.out.2.1 hb6 hh6 hs6 (FAt_all (P := fun o => ∀ (i : Nat) x, (listO o)[i]? = some x → x.size ≤ 1048576) (fun k o h => ((HZ.out (by omega)).2 k o h).2) _); have hn6 : ks.length ≤ 65536 := HZK.out (by omega); clear hb6 hh6 hs6))
  all_goals first | (go_ret; exact ⟨rfl, Below.refl _ _⟩) | skip
  clear HV HK HK1 HV2 HW1 HW2 HW3 HZ HZK hz10 hz11 hz20 hz21 hvl hvm hkl hkm
  generalize hnn : min ks.length vs.length = n at *
  have hn1 : n ≤ ks.length := by omega
  clear hnn
  generalize FAt ks vs n = F at *
  generalize w3.heap.size = C at *
  generalize w4.heap.size = D at *
  have hkcap : ks.length ≤ kc1 ∧ kc1 ≤ 9223372036854775807 := by
    obtain ⟨_, _, hsv, _⟩ := HS.out.keys
    obtain ⟨p, cap, e, h1, h2, _⟩ := hsv.opened
    injection e with _ _ e3
    subst e3
    simp only [listO, maxLen] at h1 h2
    omega
  go_loopw [12] (fun iv wr => ∃ (i : Nat), i ≤ n ∧ iv = .int .i64 i ∧ Outside C D w w6 wr ∧ Weak C D M2 (1048576 + 7 * i) wr) (fun iv _ => n - (intOf iv).toNat)
  case atStart => exact ⟨0, by omega, rfl, ⟨HS.out.below, Nat.le_refl _, fun _ _ _ => rfl⟩, HS.out.head⟩
  case round =>
    obtain ⟨i, hi, rfl, hout, hweak⟩ := hrel
    have HO : Hid (Outside C D w w6 wr) := hout
    have HWK : Hid (Weak C D M2 (1048576 + 7 * i) wr) := hweak
    by_cases hlt : i < n
    · obtain ⟨k, hki⟩ : ∃ k, ks[i]? = some k := ⟨_, List.getElem?_eq_getElem (by omega)⟩
      have hkey : ∃ b off, ka1 = ⟨b, off, none⟩ ∧ wr.cell? ⟨b, off + i, none⟩ = some (.string k) := by
        obtain ⟨hi', hC, hsv, hwi⟩ := HS.out.keys
        have hsv' := hsv.stand hwi (hout.low (lo := 0) hC (by have := HS.out.cd; have := HS.out.size; omega))
        obtain ⟨p, cap, e, _, _, _, HC⟩ := hsv'.opened
        injection e with e1
        subst e1
        obtain ⟨b, off, e2, hc, _⟩ := HC.out i k hki
        exact ⟨b, off, Option.some.inj e2, hc⟩
      obtain ⟨b, off, rfl, ck⟩ := hkey
      obtain ⟨hM1, hM2, f, m, hmap, hf⟩ := hweak
      have hlk := hmap.look Tryd.underlying30 Tryd.underlying9 (zero22 wr) k false
      simp only [Bool.false_eq_true, if_false] at hlk
      have hi1 : (i : Int) < (ks.length : Int) := by omega
      rcases hfk : f k with _ | v
      · rw [hfk] at hlk
        simp only [Option.getD_none] at hlk
        clear hf hmap hki hout hfk
        go_wp2
        exact ⟨⟨i + 1, by omega, by go_num, HO.out, HWK.out.more (by omega)⟩, by simp [intOf]; omega⟩
      · rw [hfk] at hlk
        simp only [Option.getD_some] at hlk
        obtain ⟨p, l, c, rfl, hed⟩ := hf k v hfk
        by_cases hl0 : l = 0
        · subst hl0
          clear hf hmap hki hout hfk hed
          go_wp2
          exact ⟨⟨i + 1, by omega, by go_num, HO.out, HWK.out.more (by omega)⟩, by simp [intOf]; omega⟩
        · obtain ⟨b', x, rfl, g1, g2, g3, g4, g5, g6⟩ := hed (Nat.pos_of_ne_zero hl0)
          clear hf hmap hki hout hfk hed
          have hl1 : (0 : Int) < (l : Int) := by omega
          have hnr : ¬ 9223372036854775807 < x.size + 7 := by omega
          have HXS : Hid (x.size ≤ 1048576 + 7 * i) := g6
          go_wp2
          refine ⟨⟨i + 1, by omega, by go_num, ⟨HO.out.below.setCell (p := ⟨b', 0, none⟩) (by have := HS.out.low; show w.heap.size ≤ b'; omega) _, by have := HO.out.size; simpa [World.setCell] using this, fun q hq hq2 => ?_⟩, HWK.out.edit g3 ⟨_, g4⟩ ?_ (by omega)⟩, by simp [intOf]; omega⟩
          · rw [Below.heap_setCell _ _ _ _ (show q ≠ b' by omega)]
            exact HO.out.block q hq hq2
          · have := HXS.out
            rw [ByteArray.size_append]
            show x.size + 7 ≤ _
            omega
    · obtain rfl : i = n := by omega
      obtain ⟨hM1, hM2, f, m, hmap, -⟩ := hweak
      have hmapA : MapIs (wr.alloc (Obj.cells #[Value.string ⟨#[115, 101, 116, 32, 97, 102, 116, 101, 114, 32, 116, 104, 101, 32, 115, 116, 97, 116, 117, 115]⟩] 9)) M2 f m := hmap.same ((below_alloc wr _).block _ hmap.lt)
      obtain ⟨w7, hrun, -, ht7⟩ := hmapA.store Tryd.underlying30 Tryd.underlying9 ⟨#[88, 45, 90, 122, 45, 76, 97, 116, 101, 114]⟩ (.slice (some ⟨wr.heap.size, 0, none⟩) 1 1)
      have hlow := HS.out.low
      have hcd := HS.out.cd
      have hsz := HS.out.size
      have hz7 : w7.heap.size = wr.heap.size + 1 := by
        obtain ⟨es, clock, es', clock', _, rfl⟩ := ht7
        simp [ChangeMaps.setBlock]
      have hout7 : Outside C D w w6 w7 := by
        refine ⟨(hout.below.alloc hout.below.size _).trans (turned_below ht7 (by omega)), by have := hout.size; omega, fun q hq hq2 => ?_⟩
        rw [ht7.other (by omega), (below_alloc wr _).block q (by have := hout.size; omega)]
        exact hout.block q hq hq2
      have HEND : Hid (Below w.heap.size w w7 ∧ Held w7 (D + 1) D (.map (some M2)) (.map (some M3)) 200) := by
        have hX : D + 1 < w6.heap.size := cell_lt HS.out.held.c0
        refine ⟨hout7.below, HS.out.held.at (hout7.block _ hX (.inr (by omega))) (hout7.block _ (by omega) (.inr (Nat.le_refl _)))⟩
      obtain ⟨loS, nS, hloS, hsent⟩ := HS.out.sent
      obtain ⟨loW, nW, hwant⟩ := HS.out.want
      obtain ⟨hiK, hhiK, hkeys, hkw⟩ := HS.out.keys
      have HSH : Hid (Calls Tryd.prog 14 #[.map (some M3), .map (some M1), .slice (some ka1) ks.length kc1, .int .i64 i] w7 (fun e w' => e = .returned (.bool true) ∧ Below w7.heap.size w7 w')) :=
        sameHeader_any M3 M1 i nS nW F _ (some ks) w7 (hsent.stand (hout7.high hloS (Nat.le_refl _))).hdr (hwant.stand (hout7.low (Nat.le_refl _) (by omega))).hdr (hkeys.stand hkw (hout7.low (lo := 0) hhiK (by omega))) hn1
      clear hmap hmapA hout hout7 ht7 hsent hwant hkeys hkw
      go_wp2_with (first
        | (go_at_call 12; refine (startBody_again _ _ _ _ _ HEND.out.2).mono ?_; rintro e w' ⟨rfl, rfl⟩)
        | (go_at_call 13; refine (heldStatus_any _ _ _ _ _ _ HEND.out.2).mono ?_; rintro e w' ⟨rfl, rfl⟩)
        | (go_at_call 15; refine (heldSent_any _ _ _ _ _ _ HEND.out.2 ⟨_, rfl⟩).mono ?_; rintro e w' ⟨rfl, rfl⟩)
        | (go_at_call 14; refine HSH.out.mono ?_; rintro e w8 ⟨rfl, hb8⟩))
      go_ret
      exact ⟨rfl, HEND.out.1.trans (hb8.mono HEND.out.1.size)⟩

end Go.Proofs.Qxb6609179aDoor
