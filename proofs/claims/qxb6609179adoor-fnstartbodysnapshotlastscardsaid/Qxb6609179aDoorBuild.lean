/-
  zzBuildHeader.
-/
import Derived.Test.Qxb6609179aDoorCopies
namespace Go.Proofs.Qxb6609179aDoor
open Go.RowKit Go.MapKept

/-- What the header holds behind the first i entries. -/
def FAt (ks : List ByteArray) (vs : List (Option (List ByteArray))) : Nat → ByteArray → Option (Option (List ByteArray))
  | 0 => fun _ => none
  | i + 1 => match ks[i]?, vs[i]? with
    | some k, some o => fun x => if x = k then some o else FAt ks vs i x
    | _, _ => FAt ks vs i

theorem FAt_put {ks : List ByteArray} {vs : List (Option (List ByteArray))} {i : Nat} {k : ByteArray} {o : Option (List ByteArray)} (hk : ks[i]? = some k) (ho : vs[i]? = some o) (x : ByteArray) : FAt ks vs (i + 1) x = if x = k then some o else FAt ks vs i x := by
  simp only [FAt, hk, ho]

theorem FAt_all {ks : List ByteArray} {vs : List (Option (List ByteArray))} {P : Option (List ByteArray) → Prop} (hl : ∀ (k : Nat) o, vs[k]? = some o → P o) : ∀ (i : Nat) (s : ByteArray) o, FAt ks vs i s = some o → P o
  | 0, s, o, h => by simp [FAt] at h
  | i + 1, s, o, h => by
    rcases hk : ks[i]? with _ | k
    · simp only [FAt, hk] at h
      exact FAt_all hl i s o h
    · rcases ho : vs[i]? with _ | o'
      · simp only [FAt, hk, ho] at h
        exact FAt_all hl i s o h
      · rw [FAt_put hk ho] at h
        split at h
        · obtain rfl := Option.some.inj h
          exact hl i o' ho
        · exact FAt_all hl i s o h

/-- A header of the call's own, from block lo on, whose slices may be written. -/
def HdrOwn (lo : Nat) (w : World) (M : Nat) (F : ByteArray → Option (Option (List ByteArray))) (n : Nat) : Prop :=
  lo ≤ M ∧ M < w.heap.size ∧ ∃ f, MapIs w M f n ∧ ∀ s, (F s = none ∧ f s = none) ∨ ∃ o v, F s = some o ∧ f s = some v ∧ SV w v o ∧ Own lo w v

theorem HdrOwn.inn {lo M n : Nat} {w : World} {F : ByteArray → Option (Option (List ByteArray))} (h : HdrOwn lo w M F n) : HdrIn lo w.heap.size w M F n := by
  obtain ⟨h1, h2, f, hm, hf⟩ := h
  refine ⟨h1, h2, f, hm, fun s => ?_⟩
  rcases hf s with h | ⟨o, v, g1, g2, g3, g4⟩
  · exact .inl h
  · exact .inr ⟨o, v, g1, g2, g3, g4.within⟩

theorem HdrOwn.stand {lo M n : Nat} {w w' : World} {F : ByteArray → Option (Option (List ByteArray))} (h : HdrOwn lo w M F n) (hs : Stand lo w.heap.size w w') (hz : w.heap.size ≤ w'.heap.size) : HdrOwn lo w' M F n := by
  obtain ⟨h1, h2, f, hm, hf⟩ := h
  refine ⟨h1, by omega, f, hm.same (hs M h1 h2), fun s => ?_⟩
  rcases hf s with h | ⟨o, v, g1, g2, g3, g4⟩
  · exact .inl h
  · exact .inr ⟨o, v, g1, g2, g3.stand g4.within hs, g4.stand hs hz⟩

theorem HdrOwn.store {lo M n : Nat} {w : World} {F : ByteArray → Option (Option (List ByteArray))} (h : HdrOwn lo w M F n) {k : ByteArray} {v : Value} {o : Option (List ByteArray)} (hv : SV w v o) (ho : Own lo w v) {t : TypeId} (ht : Tryd.prog.underlying t = some (.map 9 22)) :
    ∃ w' n', (Instr.mapUpdate t (.map (some M)) (.string k) v).run Tryd.prog w = .ok () w' ∧ n' ≤ n + 1 ∧ HdrOwn lo w' M (fun x => if x = k then some o else F x) n' ∧ TurnedAt M w w' := by
  obtain ⟨h1, h2, f, hm, hf⟩ := h
  obtain ⟨w', hrun, hm', htn⟩ := hm.store ht Tryd.underlying9 k v
  have hz : w'.heap.size = w.heap.size := by
    obtain ⟨es, clock, es', clock', _, rfl⟩ := htn
    simp [ChangeMaps.setBlock]
  have hcell : ∀ b m, (∃ u, w.cell? ⟨b, m, none⟩ = some u) → b ≠ M := fun b m ⟨u, hu⟩ e => by
    subst e
    obtain ⟨es, clock, _, _, hb, _⟩ := htn
    simp [World.cell?, hb] at hu
  have hsv : ∀ v o, SV w v o → Own lo w v → SV w' v o ∧ Own lo w' v := fun v o hs hw => by
    cases o with
    | none => exact ⟨hs, fun a k c e => by rw [show v = .slice none 0 0 from hs] at e; injection e with e; cases e⟩
    | some l =>
      obtain ⟨⟨a, c, rfl⟩, hfl⟩ := hs
      obtain ⟨b, rfl, hb1, hb2, hro⟩ := hw a _ _ rfl
      by_cases hl0 : l.length = 0
      · obtain rfl := List.length_eq_zero_iff.mp hl0
        refine ⟨⟨⟨_, _, rfl⟩, ⟨some ⟨b, 0, none⟩, c, rfl, by simp, ?_, fun h => by simp at h, fun h => by simp at h⟩, fun x hx => by simp at hx⟩, fun a k c e => ?_⟩
        · obtain ⟨p, cap, e, _, hm, _⟩ := hfl.1
          injection e with _ _ e3
          rw [e3]
          exact hm
        · injection e with e1 e2
          obtain rfl := Option.some.inj e1
          subst e2
          exact ⟨b, rfl, hb1, by omega, fun m hm => by simp at hm⟩
      · have hbM : b ≠ M := hcell b 0 (Option.isSome_iff_exists.mp (hro 0 (by omega)).1)
        have hst : Stand b (b + 1) w w' := fun i hi1 hi2 => htn.other (by omega)
        refine ⟨SV.stand (o := some l) ⟨⟨_, _, rfl⟩, hfl⟩ (fun a k c e => by injection e with e1; obtain rfl := Option.some.inj e1; exact ⟨Nat.le_refl _, Nat.lt_succ_self _⟩) hst, fun a k c e => ?_⟩
        injection e with e1 e2
        obtain rfl := Option.some.inj e1
        subst e2
        exact ⟨b, rfl, hb1, by omega, hro.same (htn.other hbM)⟩
  refine ⟨w', _, hrun, by split <;> omega, ⟨h1, by omega, _, hm', fun x => ?_⟩, htn⟩
  by_cases hx : x = k
  · subst hx
    obtain ⟨hs', ho'⟩ := hsv v o hv ho
    exact .inr ⟨o, v, by simp, upd_self _ _ _, hs', ho'⟩
  · rw [upd_other hx]
    simp only [hx, if_false]
    rcases hf x with h | ⟨o', v', g1, g2, g3, g4⟩
    · exact .inl h
    · obtain ⟨hs', ho'⟩ := hsv v' o' g3 g4
      exact .inr ⟨o', v', g1, g2, hs', ho'⟩

/-- What zzBuildHeader answers. -/
def BuildRes (ok : Option (List ByteArray)) (vs : List (Option (List ByteArray))) (n : Nat) (w : World) (e : Ending) (w' : World) : Prop :=
  (ok = none ∧ e = .returned (.map none) ∧ w = w') ∨ ∃ M m, ok ≠ none ∧ e = .returned (.map (some M)) ∧ Below w.heap.size w w' ∧ HdrOwn w.heap.size w' M (FAt (listO ok) vs n) m ∧ m ≤ n

set_option maxRecDepth 50000 in
set_option maxHeartbeats 2000000 in
theorem build_any (kv vv : Value) (ok : Option (List ByteArray)) (vs : List (Option (List ByteArray))) (n : Nat) (w : World) (hk : SV w kv ok) (hv : NL w vv vs) (hn1 : n ≤ (listO ok).length) (hn2 : n ≤ vs.length) (hl : ∀ (k : Nat) o, vs[k]? = some o → lenO o ≤ 65536) :
    Calls Tryd.prog 10 #[kv, vv, .int .i64 n] w (BuildRes ok vs n w) := by
  have q22 := nil22
  have hmm := @run_makeMap Tryd.prog
  obtain ⟨kp, kcap, rfl, hkl, hkm, hkn, KC⟩ := hk.opened
  obtain ⟨vp, vcap, rfl, hvl, hvm, -, VC⟩ := hv.opened
  have HL : Hid (∀ (k : Nat) o, vs[k]? = some o → lenO o ≤ 65536) := hl
  unfold maxLen at hkm hvm
  cases ok with
  | none =>
    obtain rfl : kp = none := hkn.mpr rfl
    clear hk hv hl
    go_enter Tryd.func10, Tryd.ntmps10
    go_wp2
    go_ret
    exact .inl ⟨rfl, rfl, rfl⟩
  | some ks =>
    obtain ⟨ka, rfl⟩ : ∃ ka, kp = some ka := by
      cases kp with
      | none => exact absurd (hkn.mp rfl) (by simp)
      | some a => exact ⟨a, rfl⟩
    change n ≤ ks.length at hn1
    change ks.length ≤ kcap at hkl
    change Hid (∀ i x, ks[i]? = some x → ∃ b off, some ka = some ⟨b, off, none⟩ ∧ w.cell? ⟨b, off + i, none⟩ = some (.string x) ∧ x.size ≤ maxLen) at KC
    clear hk hv hl hkn
    go_enter Tryd.func10, Tryd.ntmps10
    simp only [listO]
    go_wp2
    generalize hM : w.heap.size = M at *
    go_loopw [8] (fun iv wr => ∃ (i m : Nat), i ≤ n ∧ iv = .int .i64 i ∧ Below M w wr ∧ HdrOwn M wr M (FAt ks vs i) m ∧ m ≤ i) (fun iv _ => n - (intOf iv).toNat)
    case atStart =>
      have hmd := MapIs.made w
      rw [hM] at hmd
      exact ⟨0, 0, by omega, rfl, (Below.refl _ _).alloc (by omega) _, ⟨Nat.le_refl _, by simp [hM], _, hmd, fun s => .inl ⟨rfl, rfl⟩⟩, by omega⟩
    case round =>
      clear hmm
      obtain ⟨i, m, hi, rfl, hb, hh, hm⟩ := hrel
      have HB : Hid (Below M w wr) := hb
      have HH : Hid (HdrOwn M wr M (FAt ks vs i) m) := hh
      clear hb hh
      by_cases hlt : i < n
      · obtain ⟨k, hki⟩ : ∃ k, ks[i]? = some k := ⟨_, List.getElem?_eq_getElem (by omega)⟩
        obtain ⟨o, hoi⟩ : ∃ o, vs[i]? = some o := ⟨_, List.getElem?_eq_getElem (by omega)⟩
        obtain ⟨kb, koff, ek, ck, -⟩ := KC.out i k hki
        obtain ⟨vb, voff, u, rfl, cv, hsv⟩ := VC.out i o hoi
        obtain rfl := Option.some.inj ek
        have HKV : Hid (∀ W, Below M w W → W.cell? ⟨kb, koff + i, none⟩ = some (.string k) ∧ W.cell? ⟨vb, voff + i, none⟩ = some u) := fun W hW => by
          rw [← hM] at hW
          exact ⟨cell_later hW ck, cell_later hW cv⟩
        have HFP : Hid (∀ x, FAt ks vs (i + 1) x = if x = k then some o else FAt ks vs i x) := fun x => FAt_put hki hoi x
        have hsvr : SV wr.drew u o := hsv.later (by rw [hM]; exact HB.out.drew)
        have HCL : Hid (Calls Tryd.prog 7 #[u] wr.drew (StrCopied o wr.drew)) := cloneStrings_any u o wr.drew hsvr (HL.out i o hoi)
        have HHd : Hid (HdrOwn M wr.drew M (FAt ks vs i) m) := HH.out.stand (fun _ _ _ => rfl) (Nat.le_refl _)
        have hHz : M ≤ wr.heap.size := by have := HH.out.2.1; omega
        obtain ⟨ck', cv'⟩ := HKV.out wr HB.out
        obtain ⟨up, ucap, rfl, -⟩ := hsv.opened
        have hi1 : (i : Int) < (ks.length : Int) := by omega
        have hi2 : (i : Int) < (vs.length : Int) := by omega
        clear hki hoi ck cv hsv hsvr ek
        go_wp2_with fail
        go_region_held3 (fun w' => w'.cell? ⟨kb, koff + i, none⟩ = some (.string k) ∧ w'.cell? ⟨vb, voff + i, none⟩ = some (.slice up (listO o).length ucap))
          (first | go_keep | exact HKV.out _ (HB.out.drew.trans (hb3.mono hHz)) | exact HKV.out _ ((HB.out.drew.trans (hb3.mono hHz)).trans (turned_below ht4 (Nat.le_refl _))))
          ((go_at_call 7; refine HCL.out.mono ?_; rintro e w3 ⟨v3, rfl, hb3, hs3, ho3⟩; obtain ⟨w4, m4, hrun, hm4, hh4, ht4⟩ := (HHd.out.stand (w' := w3) (Below.stands hb3 (Nat.le_refl _)) hb3.size).store (k := k) hs3 (ho3.lower hHz) Tryd.underlying30))
        go_wp2
        refine ⟨⟨i + 1, m4, by omega, by go_num, (HB.out.drew.trans (hb3.mono hHz)).trans (turned_below ht4 (Nat.le_refl _)), ?_, by omega⟩, by simp [intOf]; omega⟩
        rw [show FAt ks vs (i + 1) = fun x => if x = k then some o else FAt ks vs i x from funext HFP.out]
        exact hh4
      · obtain rfl : i = n := by omega
        go_wp2
        go_ret
        exact .inr ⟨M, m, by simp, rfl, by rw [hM]; exact HB.out, by rw [hM]; exact HH.out, hm⟩

end Go.Proofs.Qxb6609179aDoor
