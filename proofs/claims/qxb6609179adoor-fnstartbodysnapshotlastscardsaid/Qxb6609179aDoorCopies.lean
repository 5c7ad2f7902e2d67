/-
  zzCloneStrings, zzCloneNested.
-/
import Derived.Test.Qxb6609179aDoorClone
namespace Go.Proofs.Qxb6609179aDoor
open Go.RowKit Go.MapKept

theorem nil23 (w : World) (a : Option Addr) (n c : Nat) : (binOp .eql 23 (.slice a n c) (.slice none 0 0)).run Tryd.prog w = .ok (.bool a.isNone) w := Lib.run_eql_slice_nil w 23 22 a n c 0 0 Tryd.underlying23

theorem info22 : (Tryd.prog.info? 22).map (fun i => (i.zero, i.size, i.bytes)) = some (some (.slice none 0 0), 1, 24) := by kernel_rfl

theorem make23 (n : Nat) (hn : n ≤ 65536) : ∃ cs : Array Value, cs.size = n ∧ ∀ W : World, (Instr.makeSlice 23 (.int .i64 (n : Int)) (.int .i64 (n : Int))).run Tryd.prog W = .ok (.slice (some ⟨W.heap.size, 0, none⟩) n n) (W.alloc (.cells cs 22 (0, 0))) := by
  obtain ⟨i0, hi0, hz0, hs0, hb0⟩ := info_parts info22
  refine ⟨madeCells (Value.slice none 0 0).cells n, size_madeCells _ _, fun W => ?_⟩
  have := run_make (P := Tryd.prog) W 23 22 i0 _ Tryd.underlying23 hi0 hz0 .i64 .i64 (n : Int) (n : Int) (by omega) (by omega) (by rw [hb0]; omega) (by omega)
  rw [this, hs0, Int.toNat_natCast]
  simp

/-- A slice of the call's own, that may be written. -/
def Own (lo : Nat) (w : World) (v : Value) : Prop := ∀ a k c, v = .slice (some a) k c → ∃ b, a = ⟨b, 0, none⟩ ∧ lo ≤ b ∧ b < w.heap.size ∧ Room w b k

theorem Own.stand {lo : Nat} {w w' : World} {v : Value} (h : Own lo w v) (hs : Stand lo w.heap.size w w') (hz : w.heap.size ≤ w'.heap.size) : Own lo w' v := fun a k c e => by
  obtain ⟨b, h1, h2, h3, h4⟩ := h a k c e
  exact ⟨b, h1, h2, by omega, h4.same (hs b h2 h3)⟩

theorem Own.within {lo : Nat} {w : World} {v : Value} (h : Own lo w v) : Within lo w.heap.size v := fun a k c e => by
  obtain ⟨b, rfl, h2, h3, _⟩ := h a k c e
  exact ⟨h2, h3⟩

theorem Own.lower {lo lo' : Nat} {w : World} {v : Value} (h : Own lo w v) (hl : lo' ≤ lo) : Own lo' w v := fun a k c e => by
  obtain ⟨b, h1, h2, h3, h4⟩ := h a k c e
  exact ⟨b, h1, by omega, h3, h4⟩

def StrCopied (o : Option (List ByteArray)) (w : World) (e : Ending) (w' : World) : Prop := ∃ v', e = .returned v' ∧ Below w.heap.size w w' ∧ SV w' v' o ∧ Own w.heap.size w' v'

theorem Room.set {w : World} {G n o : Nat} {v : Value} (h : Room w G n) (hf : o < n) : Room (w.setCell ⟨G, o, none⟩ v) G n := by
  have := h.sets (o := o) (vs := [v]) (by simp; omega)
  simpa [World.setCells] using this

set_option maxRecDepth 50000 in
set_option maxHeartbeats 2000000 in
theorem cloneStrings_any (v : Value) (o : Option (List ByteArray)) (w : World) (hv : SV w v o) (hl : lenO o ≤ 65536) : Calls Tryd.prog 7 #[v] w (StrCopied o w) := by
  have q22 := nil22
  cases o with
  | none =>
    obtain rfl : v = .slice none 0 0 := hv
    go_enter Tryd.func7, Tryd.ntmps7
    go_wp2
    go_ret
    exact ⟨_, rfl, Below.refl _ _, rfl, fun a k c e => by injection e with e; cases e⟩
  | some l =>
    obtain ⟨⟨a, c, rfl⟩, hf⟩ := hv
    obtain ⟨p, cap, e, h1, h2, -, HC⟩ := hf.opened
    injection e with e1 e2 e3
    subst e1 e3
    clear hf e2
    change l.length ≤ 65536 at hl
    obtain ⟨cs, hcs, hmk⟩ := make22 l.length (by omega)
    have HRO : Hid (Room (w.alloc (.cells cs 9 (0, 0))) w.heap.size l.length) := Room.made hcs
    have HSZ : Hid (∀ x ∈ l, x.size ≤ maxLen) := fun x hx => by
      obtain ⟨i, hi⟩ := List.mem_iff_getElem?.mp hx
      obtain ⟨_, _, _, _, h⟩ := HC.out i x hi
      exact h
    go_enter Tryd.func7, Tryd.ntmps7
    go_wp2
    generalize hG : w.heap.size = G at *
    go_loopw [4] (fun iv wr => ∃ (i : Nat), i ≤ l.length ∧ iv = .int .i64 i ∧ Below G w wr ∧ G < wr.heap.size ∧ Room wr G l.length ∧ ∀ (k : Nat) x, k < i → l[k]? = some x → wr.cell? ⟨G, k, none⟩ = some (.string x)) (fun iv _ => l.length - (intOf iv).toNat)
    case atStart => exact ⟨0, by omega, rfl, (Below.refl _ _).alloc (by omega) _, by simp [hG], HRO.out, fun k x hk => by omega⟩
    case round =>
      clear HRO hmk
      obtain ⟨i, hi, rfl, hb, hGl, hro, hcp⟩ := hrel
      have HCP : Hid (∀ (k : Nat) x, k < i → l[k]? = some x → wr.cell? ⟨G, k, none⟩ = some (.string x)) := hcp
      have HRO : Hid (Room wr G l.length) := hro
      have HB : Hid (Below G w wr) := hb
      by_cases hlt : i < l.length
      · obtain ⟨x, hx⟩ : ∃ x, l[i]? = some x := ⟨_, List.getElem?_eq_getElem hlt⟩
        obtain ⟨b, off, e, c0, -⟩ := HC.out i x hx
        obtain rfl := Option.some.inj e
        have hbG : b < G := by have := cell_lt c0; rw [hG] at this; exact this
        have HX : Hid (l[i]? = some x) := hx
        replace c0 := (hb.cell (p := ⟨b, off + i, none⟩) hbG).trans c0
        obtain ⟨g0, g1⟩ := hro i hlt
        obtain ⟨v0, g0⟩ := Option.isSome_iff_exists.mp g0
        have hne : G ≠ b := by omega
        clear hx e hcp hro hb
        go_wp2
        refine ⟨⟨i + 1, by omega, by go_num, HB.out.setCell (p := ⟨G, i, none⟩) (Nat.le_refl _) _, by simpa [World.setCell] using hGl, HRO.out.set hlt, fun k y hk hy => ?_⟩, by simp [intOf]; omega⟩
        by_cases hki : k = i
        · subst hki
          obtain rfl : x = y := Option.some.inj (HX.out.symm.trans hy)
          exact World.cell?_setCell_same _ _ _ (by rw [g0])
        · rw [World.cell?_setCell_other _ _ _ _ (fun e => hki (by injection e with _ e; exact e.symm))]
          exact HCP.out k y (by omega) hy
      · obtain rfl : i = l.length := by omega
        clear hcp hro hb
        go_wp2
        go_ret
        refine ⟨_, rfl, by rw [hG]; exact HB.out, ⟨⟨_, _, rfl⟩, ⟨some ⟨G, 0, none⟩, l.length, by simp, by simp, by unfold maxLen; omega, fun h => by simp at h, fun _ => ⟨G, 0, rfl, fun k r hr j y hy => ?_⟩⟩, HSZ.out⟩, fun a' k' c' e => ?_⟩
        · rw [List.getElem?_map] at hr
          obtain ⟨z, hz, rfl⟩ := Option.map_eq_some_iff.mp hr
          match j, hy with
          | 0, hy =>
            obtain rfl := Option.some.inj hy
            rw [Nat.zero_add, Nat.mul_one, Nat.add_zero]
            exact HCP.out k z (List.getElem?_eq_some_iff.mp hz).1 hz
          | j + 1, hy => simp at hy
        · injection e with e1 e2
          obtain rfl := Option.some.inj e1
          subst e2
          exact ⟨G, rfl, by omega, hGl, HRO.out⟩

/-- Cell k of row G holds a slice with the content that vs names. -/
def CellHolds (vs : List (Option (List ByteArray))) (G : Nat) (w : World) (k : Nat) : Prop := ∀ o, vs[k]? = some o → ∃ u, w.cell? ⟨G, k, none⟩ = some u ∧ SV w u o ∧ Within (G + 1) w.heap.size u

theorem CellHolds.move {vs : List (Option (List ByteArray))} {G k : Nat} {w w' : World} (h : CellHolds vs G w k) (hc : w'.cell? ⟨G, k, none⟩ = w.cell? ⟨G, k, none⟩) (hs : Stand (G + 1) w.heap.size w w') (hz : w.heap.size ≤ w'.heap.size) : CellHolds vs G w' k := fun o ho => by
  obtain ⟨u, h1, h2, h3⟩ := h o ho
  exact ⟨u, hc.trans h1, h2.stand h3 hs, fun a k c e => by have := h3 a k c e; omega⟩

theorem NL.of_cells {vs : List (Option (List ByteArray))} {G : Nat} {w : World} (h : ∀ k, k < vs.length → CellHolds vs G w k) (hm : vs.length ≤ maxLen) : NL w (.slice (some ⟨G, 0, none⟩) vs.length vs.length) vs := by
  refine ⟨(List.range vs.length).map fun k => (w.cell? ⟨G, k, none⟩).getD (.bool false), by simp, ⟨some ⟨G, 0, none⟩, vs.length, by simp, by simp, hm, fun h => by simp at h, fun _ => ⟨G, 0, rfl, fun i r hr j x hx => ?_⟩⟩, fun i u o hu ho => ?_⟩
  · rw [List.getElem?_map, List.getElem?_map] at hr
    obtain ⟨y, hy, rfl⟩ := Option.map_eq_some_iff.mp hr
    obtain ⟨k, hk, rfl⟩ := Option.map_eq_some_iff.mp hy
    obtain ⟨hk1, hk2⟩ := List.getElem?_eq_some_iff.mp hk
    simp at hk1 hk2
    subst hk2
    match j, hx with
    | 0, hx =>
      obtain rfl := Option.some.inj hx
      rw [Nat.zero_add, Nat.mul_one, Nat.add_zero]
      obtain ⟨o, ho⟩ : ∃ o, vs[i]? = some o := ⟨_, List.getElem?_eq_getElem hk1⟩
      obtain ⟨u, hu, _⟩ := h i hk1 o ho
      rw [hu]
      rfl
    | j + 1, hx => simp at hx
  · rw [List.getElem?_map] at hu
    obtain ⟨k, hk, rfl⟩ := Option.map_eq_some_iff.mp hu
    obtain ⟨hk1, hk2⟩ := List.getElem?_eq_some_iff.mp hk
    simp at hk1 hk2
    subst hk2
    obtain ⟨u, hu, hsv, _⟩ := h i hk1 o ho
    rw [hu]
    exact hsv

def NestCopied (vs : List (Option (List ByteArray))) (w : World) (e : Ending) (w' : World) : Prop := ∃ v', e = .returned v' ∧ Below w.heap.size w w' ∧ NL w' v' vs

set_option maxRecDepth 50000 in
set_option maxHeartbeats 2000000 in
theorem cloneNested_any (v : Value) (vs : List (Option (List ByteArray))) (w : World) (hv : NL w v vs) (hn : vs.length ≤ 65536) (hl : ∀ (k : Nat) o, vs[k]? = some o → lenO o ≤ 65536) : Calls Tryd.prog 8 #[v] w (NestCopied vs w) := by
  have q23 := nil23
  have HNL : Hid (NL w v vs) := hv
  obtain ⟨p, cap, rfl, h1, h2, hz, VC⟩ := hv.opened
  have HL : Hid (∀ (k : Nat) o, vs[k]? = some o → lenO o ≤ 65536) := hl
  clear hv hl
  rcases p with _ | a
  · obtain ⟨rfl, rfl⟩ := hz rfl
    go_enter Tryd.func8, Tryd.ntmps8
    go_wp2
    go_ret
    exact ⟨_, rfl, Below.refl _ _, HNL.out⟩
  · clear hz
    obtain ⟨cs, hcs, hmk⟩ := make23 vs.length hn
    have HRO : Hid (Room (w.alloc (.cells cs 22 (0, 0))) w.heap.size vs.length) := Room.made hcs
    go_enter Tryd.func8, Tryd.ntmps8
    go_wp2
    generalize hG : w.heap.size = G at *
    go_loopw [4] (fun iv wr => ∃ (i : Nat), i ≤ vs.length ∧ iv = .int .i64 i ∧ Below G w wr ∧ G < wr.heap.size ∧ Room wr G vs.length ∧ ∀ (k : Nat), k < i → CellHolds vs G wr k) (fun iv _ => vs.length - (intOf iv).toNat)
    case atStart => exact ⟨0, by omega, rfl, (Below.refl _ _).alloc (by omega) _, by simp [hG], HRO.out, fun k hk => by omega⟩
    case round =>
      clear HRO hmk
      obtain ⟨i, hi, rfl, hb, hGl, hro, hcp⟩ := hrel
      have HCP : Hid (∀ (k : Nat), k < i → CellHolds vs G wr k) := hcp
      have HRO : Hid (Room wr G vs.length) := hro
      have HB : Hid (Below G w wr) := hb
      by_cases hlt : i < vs.length
      · obtain ⟨o, hx⟩ : ∃ o, vs[i]? = some o := ⟨_, List.getElem?_eq_getElem hlt⟩
        obtain ⟨b, off, u, e, c0, hsv⟩ := VC.out i o hx
        obtain rfl := Option.some.inj e
        have hbG : b < G := by have := cell_lt c0; rw [hG] at this; exact this
        have HX : Hid (vs[i]? = some o) := hx
        replace c0 := (hb.cell (p := ⟨b, off + i, none⟩) hbG).trans c0
        have hsvr : SV wr u o := hsv.later (by rw [hG]; exact hb)
        have HCL : Hid (Calls Tryd.prog 7 #[u] wr (StrCopied o wr)) := cloneStrings_any u o wr hsvr (HL.out i o hx)
        obtain ⟨up, ucap, rfl, -⟩ := hsv.opened
        have hne : G ≠ b := by omega
        clear hx e hcp hro hb hsv hsvr
        go_wp2_with (go_at_call 7; refine HCL.out.mono ?_; rintro e w3 ⟨v3, rfl, hb3, hs3, ho3⟩; have hro3 := HRO.out.same (hb3.block _ hGl); obtain ⟨g0, g1⟩ := hro3 i hlt; obtain ⟨v0, g0⟩ := Option.isSome_iff_exists.mp g0; have HS3 : Hid (Below wr.heap.size wr w3 ∧ SV w3 v3 o ∧ Own wr.heap.size w3 v3 ∧ Room w3 G vs.length) := ⟨hb3, hs3, ho3, hro3⟩; obtain ⟨vp3, vc3, rfl, -⟩ := hs3.opened; clear hb3 hs3 ho3 hro3)
        obtain ⟨hb3, hs3, ho3, hro3⟩ := HS3.out
        have hz : (w3.setCell ⟨G, i, none⟩ (.slice vp3 (listO o).length vc3)).heap.size = w3.heap.size := by simp [World.setCell]
        have hst : Stand (G + 1) w3.heap.size w3 (w3.setCell ⟨G, i, none⟩ (.slice vp3 (listO o).length vc3)) := fun k hk _ => Below.heap_setCell _ _ _ _ (show k ≠ G by omega)
        have hsz := hb3.size
        refine ⟨⟨i + 1, by omega, by go_num, (HB.out.trans (hb3.mono (by omega))).setCell (p := ⟨G, i, none⟩) (Nat.le_refl _) _, by omega, hro3.set hlt, fun k hk => ?_⟩, by simp [intOf]; omega⟩
        by_cases hki : k = i
        · subst hki
          intro o' ho'
          obtain rfl : o = o' := Option.some.inj (HX.out.symm.trans ho')
          refine ⟨_, World.cell?_setCell_same _ _ _ (by rw [g0]), hs3.stand ?_ hst, ?_⟩
          · intro a k c e
            have := ho3.within a k c e
            omega
          · intro a k c e
            have := ho3.within a k c e
            omega
        · have h5 : CellHolds vs G w3 k := (HCP.out k (by omega)).move (World.cell?_of_block (w := wr) (w' := w3) (a := ⟨G, k, none⟩) (hb3.block _ hGl)) (Below.stands hb3 (Nat.le_refl _)) hsz
          exact h5.move (World.cell?_setCell_other _ _ _ _ (fun e => hki (by injection e with _ e; exact e.symm))) hst (by omega)
      · obtain rfl : i = vs.length := by omega
        clear hcp hro hb
        go_wp2
        go_ret
        exact ⟨_, rfl, by rw [hG]; exact HB.out, NL.of_cells HCP.out (by unfold maxLen; omega)⟩

end Go.Proofs.Qxb6609179aDoor
