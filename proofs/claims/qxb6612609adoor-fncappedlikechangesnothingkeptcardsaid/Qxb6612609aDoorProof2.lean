/-
  FnCappedLikeChangesNothingKept: the row and the tied card.
-/
import Derived.Test.Qxb6612609aDoorKeep
import Derived.Test.Qxb6612609aDoorOpen
import Derived.Test.Qxb6612609aDoorLaw2
import Derived.Test.Qxb6612609aDoorTie
import Derived.Test.Qxb6612609aDoorCards
namespace Go.Proofs.Qxb6612609aDoor
open Go.ChangeShapes Go.WideShapes Go.ChangeAt Go.RowKit Go.Deep
set_option linter.unusedVariables false

/-- A slice of bytes that came in. -/
theorem like_in {H : Type} {enc : TypeId × Value → H} {W : World} {a : Option Addr} {len cap : Nat} {d : DataW H} {p : List MemPlace}
    (h : DataW.Trod enc Tryd.prog W 0 (fun _ => true) true 27 (.slice a len cap) d p) : ∃ l, l.length = len ∧ len ≤ maxLen ∧ Held W (· < W.heap.size) (.slice a len cap) l := by
  obtain ⟨fuel, hf⟩ := h
  rcases open_ints Tryd.underlying27 Tryd.underlying5 (by kernel_rfl) hf with ⟨hcs, _⟩ | ⟨x, l, c, zs, hcs, _, hl, hm, hz, _, hcell, hwz⟩
  · simp [Value.cells] at hcs
    obtain ⟨rfl, rfl, rfl⟩ := hcs
    exact ⟨[], rfl, by simp, none, 0, rfl, by simp, by simp, fun _ => rfl, fun h => by simp at h⟩
  · simp [Value.cells] at hcs
    obtain ⟨rfl, rfl, rfl⟩ := hcs
    simp only [if_true] at hz
    have hlen : ((zs.take len).map toByte).length = len := by simp; omega
    refine ⟨(zs.take len).map toByte, hlen, by omega, some x, cap, by rw [hlen], by rw [hlen]; exact hl, hm, (fun h => by cases h), fun hp => ?_⟩
    rw [hlen] at hp
    obtain ⟨b, off, spot⟩ := x
    have hspot : spot = none := by simpa [Addr.add] using World.cell?_spot (hcell 0 (by omega))
    subst hspot
    have h0 := hcell 0 (by omega)
    rw [add_plain] at h0
    refine ⟨b, off, rfl, World.block_lt_of_cell? W _ h0, fun i y hy => ?_⟩
    have hi : i < len := by have := (List.getElem?_eq_some_iff.1 hy).1; rw [hlen] at this; exact this
    have hiz : i < zs.length := by omega
    have hc := hcell i hiz
    rw [add_plain] at hc
    rw [hc]
    simp only [List.getElem?_map, List.getElem?_take, if_pos hi, List.getElem?_eq_getElem hiz, Option.map_some, Option.some.injEq] at hy
    rw [← hy, toByte_toNat (hwz _ (List.getElem_mem hiz))]
    simp [List.getD_eq_getElem?_getD, List.getElem?_eq_getElem hiz]

theorem keepSaid2 : KeepSaid := fun B0 B F Fp limit ps over pv p w h1 h2 h3 h4 h5 h6 h7 => keep_any B0 B F Fp limit ps over pv p w h1 h2 h3 h4 h5 h6 h7

set_option maxRecDepth 100000 in
theorem like_lifted (os : Os) (started : os.Started) (H : Type) (enc : TypeId × Value → H) :
    ReturnsInHanded {} Tryd.checked os 4 .any (fun w args => (Rows.fnCappedLikeChangesNothingKeptSpec.pre enc Tryd.prog Tryd.f4 [] false w args ∧ laidMetH Tryd.prog laidList w) ∧ sizedMet enc Tryd.prog Tryd.f4 (OpenSpec.ofChange Rows.fnCappedLikeChangesNothingKeptSpec) false w args)
      (Rows.fnCappedLikeChangesNothingKeptSpec.post enc Tryd.prog Tryd.f4 false true false false) := by
  refine returnsInHanded_of_change_and (C := Tryd.checked) (X := fun w _ => laidMetH Tryd.prog laidList w) (fun _ _ _ hh h => h.of_heap hh) own started (by kernel_rfl) Tryd.func4
    (ChangeSpec.witness_shaped (enc := enc) (C := Tryd.checked) (os := os) (X := fun w _ => laidMetH Tryd.prog laidList w) false (World.doorLaid Tryd.prog 400 os) #[.int .i64 0, .slice none 0 0, .slice none 0 0] 8 rfl (World.shaped_of_RefB (by kernel_rfl) (by kernel_rfl)) (by kernel_rfl) (by kernel_rfl) (by kernel_rfl) (door_met os _)) ?_
  intro W base args ds gs before hval0 hW _ _ hL _
  have hval : ∀ (j : Nat) t v, Tryd.f4.params[j]? = some t → args[j]? = some v → Value.okWide Tryd.prog W .any base t v := hval0
  have hW' := hW
  obtain ⟨p, q, hA0, hV0, rfl, hfz, hnd⟩ := hW
  have hA : DataW.TrodAll enc Tryd.prog W 0 (fun _ => true) true Tryd.f4.params.toList args.toList ds p := hA0
  have hV : DataW.TrodVars enc Tryd.prog W (fun _ => true) [vname] gs q := hV0
  rw [Tryd.params4] at hA hval
  obtain ⟨v0, vs0, d0, ds0, p0, q0, hargs, rfl, rfl, h0, r0⟩ := trodAll_cons hA
  obtain ⟨v1, vs1, d1, ds1, p1, q1, rfl, rfl, rfl, h1, r1⟩ := trodAll_cons r0
  obtain ⟨v2, vs2, d2, ds2, p2, q2, rfl, rfl, rfl, h2, r2⟩ := trodAll_cons r1
  obtain ⟨rfl, rfl, rfl⟩ := trodAll_nil r2
  obtain rfl : args = #[v0, v1, v2] := by cases args; simp_all
  obtain ⟨ea, hv0⟩ := var_of_laid hL
  obtain ⟨rfl, rfl⟩ := hV.unique (vars_read1 enc gE gEType Tryd.underlying29 hv0 trivial _)
  obtain ⟨n0, rfl, rfl, rfl, w0⟩ := open_int Tryd.underlying3 (hval 0 3 v0 rfl rfl) h0
  obtain ⟨a1, len1, cap1, rfl⟩ := okWide_slice Tryd.underlying27 (hval 1 27 v1 rfl rfl)
  obtain ⟨a2, len2, cap2, rfl⟩ := okWide_slice Tryd.underlying22 (hval 2 22 v2 rfl rfl)
  have lt1 : ∀ x ∈ p1, x.block < W.heap.size := by obtain ⟨m, hm⟩ := h1; exact DataW.trod_lt m _ _ _ hm
  have lt2 : ∀ x ∈ p2, x.block < W.heap.size := by obtain ⟨m, hm⟩ := h2; exact DataW.trod_lt m _ _ _ hm
  obtain ⟨lik, hll, hmk, hlk⟩ := like_in h1
  obtain ⟨ls, hn, hml, hch, hnn⟩ := chunks_in h2
  clear hA0 hval0
  refine (law2_walk keepSaid2 n0 a1 len1 cap1 lik a2 len2 cap2 ls W (bounds_i64 w0).2 hn hml hmk hll hlk hch hnn).mono fun e W' ⟨he, bel⟩ => ?_
  subst he
  exact ⟨_, rfl, _, _, _, [], _, [.cell 0 0], hW', trodAll_mk1 (shut_bool Tryd.underlying4 _), (trodAll_cons_mk (shut_int Tryd.underlying3 w0) (trodAll_cons_mk (Below.trod laidOut (by kernel_rfl) (of_decide_eq_true (by kernel_rfl)) h1 bel lt1) (trodAll_cons_mk (Below.trod laidOut (by kernel_rfl) (of_decide_eq_true (by kernel_rfl)) h2 bel lt2) trodAll_mk0))), vars_read1 enc gE gEType Tryd.underlying29 (var_below hv0 bel) trivial _, bel.frame _, fun h => by cases h⟩

theorem fnCappedLike_row : Rows.FnCappedLikeChangesNothingKeptSaid :=
  OpenClaim.holds_of_wide 4 Tryd.f4 rfl rfl rfl rfl rfl rfl rfl ⟨rfl, rfl, rfl, rfl, rfl⟩ rfl rfl rfl rfl rfl (by kernel_rfl) Tryd.func4 (by kernel_rfl)
    (of_decide_eq_true (by kernel_rfl)) (by unfold Func.isWrapper; first | (rw [if_pos (by decide +kernel)]; kernel_rfl) | (rw [if_neg (by decide +kernel)]; exact ⟨rfl, rfl⟩))
    (fun os started H enc _ => like_lifted os started H enc)

/-- ████ THE STATEMENT ████ -/
theorem fnCappedLikeChangesNothingKept_card : Rows.FnCappedLikeChangesNothingKeptCardSaid :=
  Claim7.holds_tied_plain_at .later [] [.sentinel] true (true, "3bf5883e9fbbce02dd8da35cbe191331a5068b4298fb95d242432d77a6c1089a") false
    fnCappedLike_row (fun _ h => by cases h) (by kernel_rfl) (fun _ h => by cases h) fnCappedLikeChangesNothingKept_row_tie rfl ⟨rfl, rfl⟩ (by kernel_rfl) rfl
    (fun f fn hf hfn => by
      obtain rfl : f = 4 := Option.some.inj ((show Tryd.prog.funcNamed Rows.fnCappedLikeChangesNothingKeptRow.func = some 4 by kernel_rfl).symm.trans hf) |>.symm
      obtain rfl : fn = Tryd.f4 := (Option.some.inj (Tryd.func4.symm.trans hfn)).symm
      exact ⟨by kernel_rfl, fun j t ht => by
        rw [Tryd.params4] at ht
        have hm : t ∈ [3, 27, 22] := by simpa using Array.mem_of_getElem? ht
        have hall : ([3, 27, 22].all fun u => !Tryd.prog.wantsStandIn u) = true := by kernel_rfl
        exact (show Tryd.prog.wantsStandIn t = false by simpa using List.all_eq_true.1 hall t hm)⟩)
    (by kernel_rfl)

end Go.Proofs.Qxb6612609aDoor
