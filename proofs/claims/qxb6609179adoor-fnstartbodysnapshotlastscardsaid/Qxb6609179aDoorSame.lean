/-
  zzSameStrings, zzSameHeader.
-/
import Derived.Test.Qxb6609179aDoorBuild
namespace Go.Proofs.Qxb6609179aDoor
open Go.RowKit Go.MapKept

theorem eqlmap30 (w : World) (r : Option Nat) : (binOp .eql 30 (.map r) (.map none)).run Tryd.prog w = .ok (.bool r.isNone) w := run_eql_map_nil w 30 9 22 r Tryd.underlying30

theorem zero22 (w : World) : (zeroValue 22).run Tryd.prog w = .ok (.slice none 0 0) w := by
  obtain ⟨i0, hi0, hz0, _⟩ := info_parts info22
  simp [zeroValue, typeInfo, hi0, hz0, Result.andThen]

/-- It says true, and only draws. -/
def Quietly (w : World) (e : Ending) (w' : World) : Prop := e = .returned (.bool true) ∧ ∃ m, w' = w.drewN m

set_option maxRecDepth 50000 in
set_option maxHeartbeats 2000000 in
theorem sameStrings_any (u v : Value) (o : Option (List ByteArray)) (w : World) (hu : SV w u o) (hv : SV w v o) : Calls Tryd.prog 18 #[u, v] w (Quietly w) := by
  obtain ⟨p, cap, rfl, hl, hm, hn, HC⟩ := hu.opened
  obtain ⟨p', cap', rfl, hl', hm', hn', HC'⟩ := hv.opened
  have hpn : (p = none ∧ p' = none) ∨ ∃ x x', p = some x ∧ p' = some x' := by
    cases o with
    | none => exact .inl ⟨hn.mpr rfl, hn'.mpr rfl⟩
    | some l =>
      rcases p with _ | x
      · exact absurd (hn.mp rfl) (by simp)
      · rcases p' with _ | x'
        · exact absurd (hn'.mp rfl) (by simp)
        · exact .inr ⟨x, x', rfl, rfl⟩
  generalize listO o = l at *
  clear hu hv hn hn'
  unfold maxLen at hm hm'
  have q22 := nil22
  go_enter Tryd.func18, Tryd.ntmps18
  rcases hpn with ⟨rfl, rfl⟩ | ⟨x, x', rfl, rfl⟩
  all_goals
    go_wp2
    go_loopw [5] (fun iv wr => (∃ m, wr = w.drewN m) ∧ ∃ (i : Nat), i ≤ l.length ∧ iv = .int .i64 i) (fun iv _ => l.length - (intOf iv).toNat)
    case atStart => exact ⟨⟨0, rfl⟩, 0, by omega, rfl⟩
    case round =>
      obtain ⟨⟨m, hm0⟩, i, hi, rfl⟩ := hrel
      have HB : Hid (Below w.heap.size w wr) := by rw [hm0]; exact below_drewN (Below.refl _ _) m
      have HM : Hid (wr = w.drewN m) := hm0
      clear hm0
      by_cases hlt : i < l.length
      · obtain ⟨xa, hx⟩ : ∃ x, l[i]? = some x := ⟨_, List.getElem?_eq_getElem hlt⟩
        obtain ⟨b, off, e, c0, -⟩ := HC.out i _ hx
        obtain ⟨b', off', e', c0', -⟩ := HC'.out i _ hx
        cases e <;>
            (cases e'
             replace c0 := cell_later HB.out c0
             replace c0' := cell_later HB.out c0'
             clear hx
             go_wp2_with fail
             go_quiet (fail)
             have hbd : ∃ m, wr.drewN nq = w.drewN m := ⟨m + nq, by rw [HM.out, World.drewN_drewN]⟩
             generalize wr.drewN nq = w5 at *
             go_wp2
             go_roundw
             case rel => exact ⟨hbd, i + 1, by omega, by go_num⟩
             case measure => simp [intOf]; omega)
      · go_wp2
        go_ret
        exact ⟨rfl, m, HM.out⟩

/-- Two headers that hold the same have one size. -/
theorem hdr_sizes {w w' : World} {M M' n n' : Nat} {F : ByteArray → Option (Option (List ByteArray))} (h : HdrIs w M F n) (h' : HdrIs w' M' F n') : n = n' := by
  obtain ⟨f, hm, hf⟩ := h
  obtain ⟨f', hm', hf'⟩ := h'
  have key : ∀ s, (f s).isSome = true ↔ (f' s).isSome = true := fun s => by
    rcases hf s with ⟨h1, h2⟩ | ⟨o, v, h1, h2, _⟩
    · rcases hf' s with ⟨_, h3⟩ | ⟨o', v', h3, _⟩
      · rw [h2, h3]
      · rw [h1] at h3; cases h3
    · rcases hf' s with ⟨h3, _⟩ | ⟨o', v', _, h3, _⟩
      · rw [h1] at h3; cases h3
      · rw [h2, h3]; simp
  have h1 := hm.size_le hm' (fun s h => (key s).mp h)
  have h2 := hm'.size_le hm (fun s h => (key s).mpr h)
  omega

set_option maxRecDepth 50000 in
set_option maxHeartbeats 2000000 in
theorem sameHeader_any (M M' n m m' : Nat) (F : ByteArray → Option (Option (List ByteArray))) (kv : Value) (ok : Option (List ByteArray)) (w : World) (hg : HdrIs w M F m) (hw : HdrIs w M' F m') (hk : SV w kv ok) (hn : n ≤ (listO ok).length) :
    Calls Tryd.prog 14 #[.map (some M), .map (some M'), kv, .int .i64 n] w (fun e w' => e = .returned (.bool true) ∧ Below w.heap.size w w') := by
  obtain rfl := hdr_sizes hg hw
  have HG : Hid (HdrIs w M F m) := hg
  have HW : Hid (HdrIs w M' F m) := hw
  obtain ⟨kp, kcap, rfl, hkl, hkm, -, KC⟩ := hk.opened
  generalize listO ok = ks at *
  obtain ⟨f, hmf, hf⟩ := hg
  obtain ⟨f', hmf', hf'⟩ := hw
  have hlen := hmf.len Tryd.underlying30
  have hlen' := hmf'.len Tryd.underlying30
  have HMF : Hid (MapIs w M f m ∧ MapIs w M' f' m) := ⟨hmf, hmf'⟩
  have HF : Hid ((∀ s, (F s = none ∧ f s = none) ∨ ∃ o v, F s = some o ∧ f s = some v ∧ SV w v o) ∧ ∀ s, (F s = none ∧ f' s = none) ∨ ∃ o v, F s = some o ∧ f' s = some v ∧ SV w v o) := ⟨hf, hf'⟩
  clear hmf hmf' hf hf' hk
  unfold maxLen at hkm
  have q30 := eqlmap30
  go_enter Tryd.func14, Tryd.ntmps14
  go_wp2
  clear hlen hlen'
  go_loopw [9] (fun iv wr => Below w.heap.size w wr ∧ ∃ (i : Nat), i ≤ n ∧ iv = .int .i64 i) (fun iv _ => n - (intOf iv).toNat)
  case atStart => exact ⟨Below.refl _ _, 0, by omega, rfl⟩
  case round =>
    obtain ⟨hb, i, hi, rfl⟩ := hrel
    have HB : Hid (Below w.heap.size w wr) := hb
    by_cases hlt : i < n
    · obtain ⟨k, hki⟩ : ∃ k, ks[i]? = some k := ⟨_, List.getElem?_eq_getElem (by omega)⟩
      obtain ⟨b, off, rfl, c0, -⟩ := KC.out i k hki
      replace c0 := cell_later hb c0
      have hlk := (HMF.out.1.same (hb.block _ HMF.out.1.lt)).look Tryd.underlying30 Tryd.underlying9 (zero22 wr) k true
      have hlk' := (HMF.out.2.same (hb.block _ HMF.out.2.lt)).look Tryd.underlying30 Tryd.underlying9 (zero22 wr) k true
      obtain ⟨u, u', ex, o, he, he', hsu, hsu'⟩ : ∃ (u u' : Value) (ex : Bool) (o : Option (List ByteArray)), (Value.tuple #[(f k).getD (.slice none 0 0), .bool (f k).isSome] = .tuple #[u, .bool ex]) ∧ (Value.tuple #[(f' k).getD (.slice none 0 0), .bool (f' k).isSome] = .tuple #[u', .bool ex]) ∧ SV w u o ∧ SV w u' o := by
        rcases HF.out.1 k with ⟨h1, h2⟩ | ⟨o, v, h1, h2, h3⟩
        · rcases HF.out.2 k with ⟨_, h4⟩ | ⟨o', v', h4, _⟩
          · rw [h2, h4]
            exact ⟨_, _, false, none, rfl, rfl, rfl, rfl⟩
          · rw [h1] at h4; cases h4
        · rcases HF.out.2 k with ⟨h4, _⟩ | ⟨o', v', h4, h5, h6⟩
          · rw [h1] at h4; cases h4
          · rw [h1] at h4
            obtain rfl := Option.some.inj h4
            rw [h2, h5]
            exact ⟨_, _, true, o, rfl, rfl, h3, h6⟩
      simp only [if_true, he] at hlk
      simp only [if_true, he'] at hlk'
      have HSS : Hid (Calls Tryd.prog 18 #[u, u'] wr (Quietly wr)) := sameStrings_any u u' o wr (hsu.later hb) (hsu'.later hb)
      obtain ⟨up, uc, rfl, -⟩ := hsu.opened
      obtain ⟨up', uc', rfl, -⟩ := hsu'.opened
      have hi1 : (i : Int) < (ks.length : Int) := by omega
      clear hki hb he he' hsu hsu'
      go_wp2_with (go_at_call 18; refine HSS.out.mono ?_; rintro e w3 ⟨rfl, m3, hm3⟩; have HB3 : Hid (Below w.heap.size w w3) := by { rw [hm3]; exact below_drewN HB.out m3 }; clear hm3)
      exact ⟨⟨HB3.out, i + 1, by omega, by go_num⟩, by simp [intOf]; omega⟩
    · clear hb
      go_wp2
      go_ret
      exact ⟨rfl, HB.out⟩

end Go.Proofs.Qxb6609179aDoor
