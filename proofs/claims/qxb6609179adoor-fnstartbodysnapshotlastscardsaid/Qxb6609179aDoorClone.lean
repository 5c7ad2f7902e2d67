/-
  Header.Clone of the net http package.
-/
import Derived.Test.Qxb6609179aDoorBase
import Derived.Maps.Range
import Derived.Laws.MakeOwn
import Derived.Laws.IdiomCopy
import Derived.Lib.SliceRun
import Derived.Deep.RegionHeld3
import Derived.Sort.AtCall
namespace Go.Proofs.Qxb6609179aDoor
open Go.RowKit Go.MapKept

theorem eqlmap39 (w : World) (r : Option Nat) : (binOp .eql 39 (.map r) (.map none)).run Tryd.prog w = .ok (.bool r.isNone) w := run_eql_map_nil w 39 9 22 r Tryd.underlying39
theorem nil22 (w : World) (a : Option Addr) (n c : Nat) : (binOp .eql 22 (.slice a n c) (.slice none 0 0)).run Tryd.prog w = .ok (.bool a.isNone) w := Lib.run_eql_slice_nil w 22 9 a n c 0 0 Tryd.underlying22

theorem info9 : (Tryd.prog.info? 9).map (fun i => (i.zero, i.size, i.bytes)) = some (some (.string ByteArray.empty), 1, 16) := by kernel_rfl
theorem size9 : (Tryd.prog.info? 9).map (·.size) = some 1 := by kernel_rfl

theorem make22 (n : Nat) (hn : n ≤ 68719476736) : ∃ cs : Array Value, cs.size = n ∧ ∀ W : World, (Instr.makeSlice 22 (.int .i64 (n : Int)) (.int .i64 (n : Int))).run Tryd.prog W = .ok (.slice (some ⟨W.heap.size, 0, none⟩) n n) (W.alloc (.cells cs 9 (0, 0))) := by
  obtain ⟨i0, hi0, hz0, hs0, hb0⟩ := info_parts info9
  refine ⟨madeCells (Value.string ByteArray.empty).cells n, size_madeCells _ _, fun W => ?_⟩
  have := run_make (P := Tryd.prog) W 22 9 i0 _ Tryd.underlying22 hi0 hz0 .i64 .i64 (n : Int) (n : Int) (by omega) (by omega) (by rw [hb0]; omega) (by omega)
  rw [this, hs0, Int.toNat_natCast]
  simp

theorem makeMap39 (n : Nat) (W : World) : (Instr.makeMap 39 (some (.int .i64 (n : Int)))).run Tryd.prog W = .ok (.map (some W.heap.size)) (W.alloc (.map #[] 0)) := by
  simp [Instr.makeMap, run_underlying Tryd.underlying39, asInt, asIntOf, Result.andThen]

theorem Ranging.left {w : World} {b r n cnt tot : Nat} {f : ByteArray → Option Value} {done : ByteArray → Prop} (h : Ranging w b r f n done cnt tot) : w.rangeLeft b r = cnt := by
  obtain ⟨es, clock, since, seen, c0, h1, _, _, _, _, h6, _, h8, _⟩ := h
  simp only [World.rangeLeft, h1, h6]
  exact h8

/-- A row of n cells that may be written. -/
def Room (w : World) (G n : Nat) : Prop := ∀ m, m < n → (w.cell? ⟨G, m, none⟩).isSome = true ∧ w.frozen? ⟨G, m, none⟩ = false

theorem Room.made {w : World} {cs : Array Value} {e : TypeId} {n : Nat} (hc : cs.size = n) : Room (w.alloc (.cells cs e (0, 0))) w.heap.size n := fun m hm => by
  have hh : (w.alloc (.cells cs e (0, 0))).heap[w.heap.size]? = some (.cells cs e (0, 0)) := (heap_alloc w _).1
  constructor
  · simp only [World.cell?, hh]
    rw [Array.getElem?_eq_getElem (by omega)]
    rfl
  · simp only [World.frozen?, hh]
    simp

theorem Room.same {w w' : World} {G n : Nat} (h : Room w G n) (e : w'.heap[G]? = w.heap[G]?) : Room w' G n := fun m hm => by
  have h1 := World.cell?_of_block (w := w) (w' := w') (a := ⟨G, m, none⟩) e
  have h2 := World.frozen?_of_block (w := w) (w' := w') (a := ⟨G, m, none⟩) e
  rw [h1, h2]
  exact h m hm

theorem Room.sets {w : World} {G n o : Nat} {vs : List Value} (h : Room w G n) (hf : o + vs.length ≤ n) : Room (w.setCells G o vs) G n := fun m hm => by
  refine ⟨?_, by rw [World.frozen?_setCells]; exact (h m hm).2⟩
  by_cases hm2 : o ≤ m ∧ m < o + vs.length
  · have := World.cell?_setCells_in G vs o w (fun j hj => (h (o + j) (by omega)).1) (m - o) (by omega)
    rw [show o + (m - o) = m by omega] at this
    rw [this]
    rfl
  · rw [World.cell?_setCells_out G vs o w ⟨G, m, none⟩ (fun _ _ => by simp only []; omega)]
    exact (h m hm).1

theorem setCells_block (G : Nat) : ∀ (vs : List Value) (o : Nat) (w : World) (i : Nat), i ≠ G → (w.setCells G o vs).heap[i]? = w.heap[i]?
  | [], _, _, _, _ => rfl
  | v :: vs, o, w, i, hi => by
    rw [World.setCells, setCells_block G vs (o + 1) _ i hi]
    exact Below.heap_setCell w ⟨G, o, none⟩ v i hi

theorem below_sets {B G : Nat} {w0 w : World} (hB : B ≤ G) : ∀ (vs : List Value) (o : Nat), Below B w0 w → Below B w0 (w.setCells G o vs)
  | [], _, h => h
  | v :: vs, o, h => by
    rw [World.setCells]
    exact below_sets hB vs (o + 1) (h.setCell (p := ⟨G, o, none⟩) hB v)

/-- A copied slice, in the row G below o. -/
def Put (w : World) (G o : Nat) (c : Option (List ByteArray)) (v : Value) : Prop :=
  (c = none ∧ v = .slice none 0 0) ∨ ∃ (l : List ByteArray) (off : Nat), c = some l ∧ v = .slice (some ⟨G, off, none⟩) l.length l.length ∧ off + l.length ≤ o ∧ ∀ (i : Nat) x, l[i]? = some x → w.cell? ⟨G, off + i, none⟩ = some (.string x) ∧ x.size ≤ maxLen

theorem Put.move {w w' : World} {G o o' : Nat} {c : Option (List ByteArray)} {v : Value} (h : Put w G o c v) (hc : ∀ m, m < o → w'.cell? ⟨G, m, none⟩ = w.cell? ⟨G, m, none⟩) (ho : o ≤ o') : Put w' G o' c v := by
  rcases h with h | ⟨l, off, h1, h2, h3, h4⟩
  · exact .inl h
  · refine .inr ⟨l, off, h1, h2, by omega, fun i x hx => ?_⟩
    rw [hc _ (by have := (List.getElem?_eq_some_iff.mp hx).1; omega)]
    exact h4 i x hx

theorem Put.sv {w : World} {G o : Nat} {c : Option (List ByteArray)} {v : Value} (h : Put w G o c v) (ho : o ≤ maxLen) : SV w v c := by
  rcases h with ⟨rfl, h⟩ | ⟨l, off, rfl, rfl, h3, h4⟩
  · exact h
  · refine ⟨⟨_, _, rfl⟩, ⟨some ⟨G, off, none⟩, l.length, by simp, by simp, by omega, fun h => by simp at h, fun _ => ⟨G, off, rfl, fun i r hr j x hx => ?_⟩⟩, fun x hx => ?_⟩
    · rw [List.getElem?_map] at hr
      obtain ⟨y, hy, rfl⟩ := Option.map_eq_some_iff.mp hr
      match j, hx with
      | 0, hx =>
        obtain rfl := Option.some.inj hx
        rw [Nat.mul_one, Nat.add_zero]
        exact (h4 i y hy).1
      | j + 1, hx => simp at hx
    · obtain ⟨i, hi⟩ := List.mem_iff_getElem?.mp hx
      exact (h4 i x hi).2

/-- What Clone has laid down so far: the map M2 holds the keys that are done, its slices lie in the row G below o. -/
def Cloned (F : ByteArray → Option (Option (List ByteArray))) (done : ByteArray → Prop) (M2 G o : Nat) (w : World) : Prop :=
  ∃ f2 n2, MapIs w M2 f2 n2 ∧ ∀ s, (done s ∧ ∃ c v, F s = some c ∧ f2 s = some v ∧ Put w G o c v) ∨ (¬ done s ∧ f2 s = none)

theorem Cloned.move {F : ByteArray → Option (Option (List ByteArray))} {done : ByteArray → Prop} {M2 G o : Nat} {w w' : World} (h : Cloned F done M2 G o w) (hM : w'.heap[M2]? = w.heap[M2]?) (hc : ∀ m, m < o → w'.cell? ⟨G, m, none⟩ = w.cell? ⟨G, m, none⟩) : Cloned F done M2 G o w' := by
  obtain ⟨f2, n2, hm, hf⟩ := h
  refine ⟨f2, n2, hm.same hM, fun s => ?_⟩
  rcases hf s with ⟨hd, c, v, h1, h2, h3⟩ | h
  · exact .inl ⟨hd, c, v, h1, h2, h3.move hc (Nat.le_refl _)⟩
  · exact .inr h

theorem Cloned.store {F : ByteArray → Option (Option (List ByteArray))} {done : ByteArray → Prop} {M2 G o o' : Nat} {w : World} (h : Cloned F done M2 G o w) (hMG : M2 ≠ G) {s : ByteArray} {v : Value} {c : Option (List ByteArray)} (hF : F s = some c) (hp : Put w G o' c v) (ho : o ≤ o') :
    ∃ w', (Instr.mapUpdate 39 (.map (some M2)) (.string s) v).run Tryd.prog w = .ok () w' ∧ Cloned F (fun x => done x ∨ x = s) M2 G o' w' ∧ TurnedAt M2 w w' := by
  obtain ⟨f2, n2, hm, hf⟩ := h
  obtain ⟨w', hrun, hm', ht⟩ := hm.store Tryd.underlying39 Tryd.underlying9 s v
  have hcell : ∀ m, w'.cell? ⟨G, m, none⟩ = w.cell? ⟨G, m, none⟩ := fun m => World.cell?_of_block (w := w) (w' := w') (a := ⟨G, m, none⟩) (ht.other (fun e => hMG e.symm))
  refine ⟨w', hrun, ⟨_, _, hm', fun x => ?_⟩, ht⟩
  by_cases hx : x = s
  · subst hx
    exact .inl ⟨.inr rfl, c, v, hF, upd_self _ _ _, hp.move (fun m _ => hcell m) (Nat.le_refl _)⟩
  · rw [upd_other hx]
    rcases hf x with ⟨hd, c', v', h1, h2, h3⟩ | ⟨hd, h2⟩
    · exact .inl ⟨.inl hd, c', v', h1, h2, h3.move (fun m _ => hcell m) ho⟩
    · exact .inr ⟨fun h => h.elim hd hx, h2⟩

/-- What Clone answers: a header of its own that holds the same. -/
def CloneRes (F : ByteArray → Option (Option (List ByteArray))) (w : World) (e : Ending) (w' : World) : Prop := ∃ M2 n2, e = .returned (.map (some M2)) ∧ Below w.heap.size w w' ∧ HdrIn w.heap.size w'.heap.size w' M2 F n2

set_option maxRecDepth 50000 in
set_option maxHeartbeats 2000000 in
theorem clone_any (M n : Nat) (F : ByteArray → Option (Option (List ByteArray))) (w : World) (hh : HdrIs w M F n) (hn : n ≤ 65536) (hL : ∀ s o, F s = some o → lenO o ≤ 65536) :
    Calls Tryd.prog 23 #[.map (some M)] w (CloneRes F w) := by
  obtain ⟨f, hM, hf⟩ := hh
  have HF : Hid (∀ s, (F s = none ∧ f s = none) ∨ ∃ o v, F s = some o ∧ f s = some v ∧ SV w v o) := hf
  have HLE : Hid (∀ s v, f s = some v → sliceLen v ≤ 65536) := fun s v hs => by
    rcases HF.out s with ⟨_, h2⟩ | ⟨o, v', h1, h2, h3⟩
    · rw [h2] at hs; cases hs
    · obtain rfl : v' = v := Option.some.inj (h2.symm.trans hs)
      rw [h3.len]
      exact hL s o h1
  have hML := hM.lt
  clear hf hL
  have q39 := eqlmap39
  obtain ⟨w1, hr1, hR1, hb1, hs1⟩ := hM.range Tryd.underlying39
  have HTT : Hid (∀ W, W.heap[M]? = w.heap[M]? → mapTot W M = mapTot w M) := fun W e => by unfold mapTot; rw [e]
  generalize hto : mapTot w M = total at *
  have HT : Hid (total ≤ n * 65536) := hR1.tot_le HLE.out
  go_enter Tryd.func23, Tryd.ntmps23
  go_wp2
  go_loopw [3] (fun nv wr => Below w.heap.size w wr ∧ ∃ (done : ByteArray → Prop) (cnt tot z : Nat), Ranging wr M w.heap.size f n done cnt tot ∧ nv = .int .i64 z ∧ z + tot = total) (fun _ wr => wr.rangeLeft M w.heap.size)
  case atStart => exact ⟨hb1, _, _, _, 0, hR1, rfl, by omega⟩
  case round =>
    clear hr1 hR1
    obtain ⟨hb, done, cnt, tot, z, hR, rfl, hz⟩ := hrel
    have HB : Hid (Below w.heap.size w wr) := hb
    have hmul : n * 65536 ≤ 4294967296 := by omega
    have hT := HT.out
    rcases hR.next (P := Tryd.prog) 0 with ⟨rfl, hall, hnx⟩ | ⟨s, v, w3, cnt3, tot3, hfs, hnd, hnx, hR3, hcn, htt, hb3, ho3, hent⟩
    · have hML2 : M < wr.heap.size := by have := hR.map.lt; omega
      obtain ⟨cs, hcs, hmk⟩ := make22 z (by omega)
      have hmm := makeMap39
      have hMs := hR.map
      generalize hG : wr.heap.size = G at *
      have HBa : Hid (Below w.heap.size w ((wr.alloc (.cells cs 9 (0, 0))).alloc (.map #[] 0))) := (hb.alloc hb.size _).alloc (Nat.le_trans hb.size (by simp)) _
      have hM4 : MapIs ((wr.alloc (.cells cs 9 (0, 0))).alloc (.map #[] 0)) M f n := hMs.same (by rw [(heap_alloc _ _).2 M (by simp; omega), (heap_alloc _ _).2 M (by omega)])
      have hMa : MapIs (wr.alloc (.cells cs 9 (0, 0))) M f n := hMs.same (by rw [(heap_alloc _ _).2 M (by omega)])
      have hlen := hMa.len Tryd.underlying39
      obtain ⟨w5, hr5, hR5, hb5, hs5⟩ := hM4.range Tryd.underlying39
      have htt5 : mapTot ((wr.alloc (.cells cs 9 (0, 0))).alloc (.map #[] 0)) M = total := HTT.out _ (HBa.out.block _ hML)
      rw [htt5] at hR5
      clear hR hb
      have hcl5 : Cloned F (fun _ => False) (G + 1) G 0 w5 := by
        have hm := (MapIs.made (wr.alloc (.cells cs 9 (0, 0))))
        rw [show (wr.alloc (.cells cs 9 (0, 0))).heap.size = G + 1 by simp [hG]] at hm
        exact ⟨_, _, hm.same (hb5.block _ (by simp [hG])), fun s => .inr ⟨fun h => h, rfl⟩⟩
      have hro5 : Room w5 G z := by
        have h0 := Room.made (w := wr) (e := 9) hcs
        rw [hG] at h0
        exact (h0.same ((heap_alloc _ _).2 G (by simp [hG]))).same (hb5.block _ (by simp [hG]; omega))
      have HBW : Hid (Below w.heap.size w w5) := HBa.out.trans (hb5.mono HBa.out.size)
      rw [show ((wr.alloc (.cells cs 9 (0, 0))).alloc (.map #[] 0)).heap.size = G + 2 by simp [hG]] at hr5 hR5
      have hGw : w.heap.size ≤ G := by rw [← hG]; exact HB.out.size
      obtain rfl : z = total := by omega
      go_wp2
      clear hr5 hmk hmm hlen hnx hM4 hMa hMs hb1 hs1 hs5 hb5 HBa hz htt5 HT hto HTT HB q39
      obtain ⟨wo, rfl⟩ : ∃ wo, wo = wr := ⟨_, rfl⟩
      go_loopw [6] (fun sv wx => Below w.heap.size w wx ∧ ∃ (done : ByteArray → Prop) (cnt tot o q : Nat), Ranging wx M (G + 2) f n done cnt tot ∧ sv = .slice (some ⟨G, q, none⟩) tot tot ∧ (tot = 0 ∨ q = o) ∧ q ≤ o ∧ o + tot = z ∧ Room wx G z ∧ Cloned F done (G + 1) G o wx) (fun _ wx => wx.rangeLeft M (G + 2))
      case atStart => exact ⟨HBW.out, _, _, _, 0, 0, hR5, rfl, .inr rfl, Nat.le_refl _, by omega, hro5, hcl5⟩
      case round =>
        clear hR5 hcl5 hro5 HBW
        obtain ⟨hb, done, cnt, tot, o, q, hR, rfl, hq1, hq2, hot, hro, hcl⟩ := hrel
        rcases hR.next (P := Tryd.prog) 0 with ⟨rfl, hall, hnx⟩ | ⟨s, v, w3, cnt3, tot3, hfs, hnd, hnx, hR3, hcn, htt, hb3, ho3, hent⟩
        · obtain ⟨f2, n2, hm2, hf2⟩ := hcl
          have HEND : Hid (HdrIn w.heap.size wr.heap.size wr (G + 1) F n2) := by
            refine ⟨by omega, hm2.lt, f2, hm2, fun s => ?_⟩
            rcases hf2 s with ⟨_, c, v, h1, h2, h3⟩ | ⟨hd, h2⟩
            · refine .inr ⟨c, v, h1, h2, h3.sv (by unfold maxLen; omega), fun a k m e => ?_⟩
              rcases h3 with ⟨_, h4⟩ | ⟨l, off, _, h4, _⟩
              · rw [h4] at e
                injection e with e
                cases e
              · rw [h4] at e
                injection e with e
                obtain rfl := Option.some.inj e
                have := hm2.lt
                exact ⟨by show w.heap.size ≤ G; omega, by show G < wr.heap.size; omega⟩
            · left
              refine ⟨?_, h2⟩
              rcases HF.out s with ⟨h1, _⟩ | ⟨c, v, h1, h3, _⟩
              · exact h1
              · exact absurd (hall s (by rw [h3]; rfl)) hd
          clear hR hm2 hf2 hro hall
          go_wp2
          go_ret
          exact ⟨_, _, rfl, hb, HEND.out⟩
        · obtain ⟨c, hFs, hsv⟩ : ∃ c, F s = some c ∧ SV w v c := by
            rcases HF.out s with ⟨_, h2⟩ | ⟨c, v', h1, h2, h3⟩
            · rw [h2] at hfs; cases hfs
            · obtain rfl : v' = v := Option.some.inj (h2.symm.trans hfs)
              exact ⟨c, h1, h3⟩
          have hbw : Below w.heap.size w w3 := hb.trans (hb3.mono (by omega))
          have hcl3 : Cloned F done (G + 1) G o w3 := hcl.move (ho3 _ (by omega)) (fun m _ => World.cell?_of_block (w := wr) (w' := w3) (a := ⟨G, m, none⟩) (ho3 _ (by show G ≠ G + 2; omega)))
          have hro3 : Room w3 G z := hro.same (ho3 _ (by omega))
          have hleft := hR.left
          have HLL : Hid (cnt3 < wr.rangeLeft M (G + 2)) := by show cnt3 < _; rw [hleft]; exact hcn
          have hG2 : G + 2 < w3.heap.size := hR3.lt
          have hMne : M ≠ G + 1 := by omega
          have hlen := hsv.len
          have q22 := nil22
          clear hR hcl hro hb hb3 ho3 hnd hfs hleft hcn
          cases c with
          | none =>
            obtain rfl : v = .slice none 0 0 := hsv
            obtain ⟨w4, hrun, hcl4, ht4⟩ := hcl3.store (by omega) hFs (o' := o) (v := .slice none 0 0) (.inl ⟨rfl, rfl⟩) (Nat.le_refl _)
            have HR4 : Hid (Ranging w4 M (G + 2) f n (fun x => done x ∨ x = s) cnt3 tot3) := hR3.same (ht4.other hMne) (ht4.other (by omega))
            have HR5 : Hid (Room w4 G z) := hro3.same (ht4.other (by omega))
            have HC4 : Hid (Cloned F (fun x => done x ∨ x = s) (G + 1) G o w4) := hcl4
            have HB4 : Hid (Below w.heap.size w w4) := hbw.trans (turned_below ht4 (by omega))
            simp only [sliceLen] at htt
            obtain rfl : tot = tot3 := by omega
            have HQ1 : Hid (tot = 0 ∨ q = o) := hq1
            clear hq1
            clear hR3 hcl3 hro3 hcl4 ht4 hlen
            go_wp2
            exact ⟨⟨HB4.out, _, cnt3, tot, o, q, HR4.out, rfl, HQ1.out, hq2, hot, HR5.out, HC4.out⟩, by rw [HR4.out.left]; exact HLL.out⟩
          | some l =>
            obtain ⟨⟨a, cc, rfl⟩, hfl⟩ := hsv
            simp only [sliceLen] at htt
            have hfl3 := hfl.later hbw
            have hsz : ∀ (i : Nat) x, l[i]? = some x → x.size ≤ maxLen := fun i x hx => hfl.2 x (List.mem_of_getElem? hx)
            have hsrc : ∀ (j : Nat) v, (l.map Value.string)[j]? = some v → w3.cell? (a.add j) = some v := fun j v hv => by
              rw [List.getElem?_map] at hv
              obtain ⟨x, hx, rfl⟩ := Option.map_eq_some_iff.mp hv
              obtain ⟨p, cap, e, _, _, _, HC⟩ := hfl3.opened
              injection e with e1
              subst e1
              obtain ⟨b, off, e2, hc, _⟩ := HC.out j x hx
              obtain rfl := Option.some.inj e2
              rw [add_plain]
              exact hc
            have hcopy : ∀ ty, (Builtin.copy_ #[22, 22] ty #[.slice (some ⟨G, q, none⟩) tot tot, .slice (some a) l.length cc]).run Tryd.prog w3 = .ok (.int .i64 (l.length : Int)) (w3.setCells G q (l.map Value.string)) := fun ty => by
              have := run_copy_cells (P := Tryd.prog) w3 22 22 ty 9 G q tot tot a l.length cc (l.map Value.string) Tryd.underlying22 size9 (by rw [List.length_map]; simp [Nat.min_def]; omega) hsrc (fun j hj => (hro3 (q + j) (by simp at hj; omega)).1) (fun j hj => (hro3 (q + j) (by simp at hj; omega)).2) (fun v hv => by obtain ⟨x, _, rfl⟩ := List.mem_map.mp hv; rfl)
              rw [this]
              simp [goInt]
            have hcell4 : ∀ m, m < o → (w3.setCells G q (l.map Value.string)).cell? ⟨G, m, none⟩ = w3.cell? ⟨G, m, none⟩ := fun m hm => World.cell?_setCells_out G _ q w3 ⟨G, m, none⟩ (fun _ _ => by simp only [List.length_map]; omega)
            have hblk4 : ∀ i, i ≠ G → (w3.setCells G q (l.map Value.string)).heap[i]? = w3.heap[i]? := fun i hi => setCells_block _ _ _ _ _ hi
            have hcl4 : Cloned F done (G + 1) G o (w3.setCells G q (l.map Value.string)) := hcl3.move (hblk4 _ (by omega)) hcell4
            have hput : Put (w3.setCells G q (l.map Value.string)) G (o + l.length) (some l) (.slice (some ⟨G, q, none⟩) l.length l.length) := by
              refine .inr ⟨l, q, rfl, rfl, by omega, fun i x hx => ⟨?_, hsz i x hx⟩⟩
              have hi := (List.getElem?_eq_some_iff.mp hx).1
              have := World.cell?_setCells_in G (l.map Value.string) q w3 (fun j hj => (hro3 (q + j) (by simp at hj; omega)).1) i (by simpa using hi)
              rw [this]
              simp [(List.getElem?_eq_some_iff.mp hx).2]
            have hro4 : Room (w3.setCells G q (l.map Value.string)) G z := hro3.sets (by simp; omega)
            have hbw4 : Below w.heap.size w (w3.setCells G q (l.map Value.string)) := below_sets (by omega) _ _ hbw
            have hR4 : Ranging (w3.setCells G q (l.map Value.string)) M (G + 2) f n (fun x => done x ∨ x = s) cnt3 tot3 := hR3.same (hblk4 _ (by omega)) (hblk4 _ (by omega))
            generalize w3.setCells G q (l.map Value.string) = w4 at *
            obtain ⟨w6, hrun, hcl6, ht6⟩ := hcl4.store (by omega) hFs hput (by omega)
            have HR4 : Hid (Ranging w6 M (G + 2) f n (fun x => done x ∨ x = s) cnt3 tot3) := hR4.same (ht6.other hMne) (ht6.other (by omega))
            have HR5 : Hid (Room w6 G z) := hro4.same (ht6.other (by omega))
            have HC4 : Hid (Cloned F (fun x => done x ∨ x = s) (G + 1) G (o + l.length) w6) := hcl6
            have HB4 : Hid (Below w.heap.size w w6) := hbw4.trans (turned_below ht6 (by omega))
            have hl1 : (l.length : Int) ≤ (tot : Int) := by omega
            have HTO : Hid (tot = l.length + tot3 ∧ (tot = 0 ∨ q = o)) := ⟨htt, hq1⟩
            clear htt hq1 hlen hR3 hcl3 hro3 hcl4 hro4 hR4 hcl6 ht6 hfl hfl3 hsz hsrc hput hcell4 hblk4 hbw hbw4
            go_wp2
            refine ⟨⟨HB4.out, _, cnt3, tot3, o + l.length, if tot = l.length then q else q + l.length, HR4.out, ?_, ?_, ?_, ?_, HR5.out, HC4.out⟩, by rw [HR4.out.left]; exact HLL.out⟩
            · have := HTO.out.1
              rw [show tot - l.length = tot3 by omega]
              split <;> rfl
            · have := HTO.out
              split <;> omega
            · split <;> omega
            · have := HTO.out.1
              omega
    · have hfl : ∃ a k m, v = .slice a k m := by
        rcases HF.out s with ⟨_, h2⟩ | ⟨o, v', h1, h2, h3⟩
        · rw [h2] at hfs; cases hfs
        · obtain rfl : v' = v := Option.some.inj (h2.symm.trans hfs)
          obtain ⟨p, cap, hv, _⟩ := h3.opened
          exact ⟨_, _, _, hv⟩
      obtain ⟨a, k, m, rfl⟩ := hfl
      have hbw : Below w.heap.size w w3 := hb.trans hb3
      have hleft := hR.left
      have hleft3 := hR3.left
      simp only [sliceLen] at htt
      clear hb hb3 ho3 hR hnd hfs
      go_wp2
      exact ⟨⟨hbw, _, cnt3, tot3, z + k, hR3, by go_num, by omega⟩, by rw [hleft, hleft3]; exact hcn⟩

set_option maxHeartbeats 1000000 in
theorem clone_nil (w : World) : Calls Tryd.prog 23 #[.map none] w (fun e w' => e = .returned (.map none) ∧ w = w') := by
  have q39 := eqlmap39
  go_enter Tryd.func23, Tryd.ntmps23
  go_wp2
  go_ret
  exact ⟨rfl, rfl⟩

end Go.Proofs.Qxb6609179aDoor
