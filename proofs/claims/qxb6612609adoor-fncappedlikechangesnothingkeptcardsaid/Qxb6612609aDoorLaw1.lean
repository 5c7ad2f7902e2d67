/-
  FnCappedKeepsFirstFittingWrites: the walk.
-/
import Derived.Test.Qxb6612609aDoorBytes
import Derived.Test.Qxb6612609aDoorSame
import Derived.Maps.AppendAt
import Derived.Laws.AppendOwnNone
namespace Go.Proofs.Qxb6612609aDoor
open Go.RowKit

set_option maxRecDepth 100000 in
set_option maxHeartbeats 1000000 in
theorem capWrite_plain (hkeep : KeepSaid) (B0 B : Nat) (F Fp : Nat → Prop) (limit : Int) (ps : List Pc) (over : Bool) (pv : Value) (p : List UInt8) (w : World)
    (hc : CapP w B0 F B limit ps over) (hp : Held w Fp pv p) (hFp : ∀ b, Fp b → b < w.heap.size ∧ ¬ F b)
    (hlim : limit ≤ 9223372036854775807) (hsm : (cont ps).length + p.length ≤ 4194304) (hB0 : B0 ≤ w.heap.size) :
    Calls Tryd.prog 8 #[.pointer (some ⟨B, 0, none⟩), pv] w fun e w' => e = .returned (.tuple #[.int .i64 (p.length : Int), .nilIface]) ∧
      ∃ ps', CapP w' B0 (Fr F w w') B limit ps' (stepB limit (cont ps) over p) ∧ cont ps' = stepC limit (cont ps) over p ∧ Only F w w' := by
  have hW := write_plain hkeep B0 B F Fp limit ps over pv p w hc hp hFp hlim hsm hB0
  obtain ⟨pp, cp, rfl, _⟩ := hp
  have HW := hW
  clear hW
  go_enter Tryd.func8, Tryd.ntmps8
  go_wp2_with fail
  refine HW.mono ?_
  rintro e w' ⟨rfl, ps', h1, h2, h3⟩
  have HH : Hid (∃ ps', CapP w' B0 (Fr F w w') B limit ps' (stepB limit (cont ps) over p) ∧ cont ps' = stepC limit (cont ps) over p ∧ Only F w w') := ⟨ps', h1, h2, h3⟩
  clear h1 h2 h3 HW
  go_wp2
  go_ret2
  exact ⟨rfl, HH.out⟩

/-- What the law's loop keeps. -/
structure LR (B0 B : Nat) (limit : Int) (w : World) (n : Nat) (c : List UInt8) (o : Bool) (wv : Value) (wr : World) : Prop where
  cap : ∃ F ps, CapP wr B0 F B limit ps o ∧ cont ps = c ∧ (∀ k, F k → B0 ≤ k ∧ k < wr.heap.size) ∧ ∀ g, wv.ownBlock = some g → ¬ F g
  want : wr.ownsRow B0 5 1 wv c.length (bytesV c)
  below : Below B0 w wr
  few : c.length ≤ n

theorem held_of_ownsV {w : World} {B0 n : Nat} {v : Value} {l : List UInt8} (h : w.ownsRow B0 5 1 v n (bytesV l)) (hn : l.length = n) : Held w (fun _ => True) v l := by
  rcases h.2 with ⟨rfl, h0⟩ | ⟨g, cap, cur, rfl, _⟩
  · subst hn
    have : l = [] := List.length_eq_zero_iff.1 h0
    subst this
    exact ⟨none, 0, rfl, by simp, by simp, fun _ => rfl, fun h => by simp at h⟩
  · exact held_of_owns h hn _ trivial

/-- A nil element has no capacity. -/
def NilNone (w : World) (a : Option Addr) (m : Nat) : Prop := ∀ k b o n c, k < m → a = some ⟨b, o, none⟩ → w.cell? ⟨b, o + k, none⟩ = some (.slice none n c) → c = 0

/-- The k-th chunk, as the append law asks for it. -/
theorem src_of_held {w : World} {F : Nat → Prop} {p : Option Addr} {n c : Nat} {l : List UInt8} (h : Held w F (.slice p n c) l) (hn : l.length = n) : p = none ∧ l = [] ∨ ∃ ad, p = some ad ∧ ∀ j u, (bytesV l)[j]? = some u → w.cell? (ad.add j) = some u := by
  obtain ⟨p', c', e, _, _, h0, hc⟩ := h
  simp only [Value.slice.injEq] at e
  obtain ⟨rfl, _, rfl⟩ := e
  cases p with
  | none => exact .inl ⟨rfl, h0 rfl⟩
  | some ad =>
    refine .inr ⟨ad, rfl, fun j u hu => ?_⟩
    simp only [bytesV, List.getElem?_map, Option.map_eq_some_iff] at hu
    obtain ⟨x, hx, rfl⟩ := hu
    have hj := (List.getElem?_eq_some_iff.1 hx).1
    obtain ⟨b, off, e, _, hcell⟩ := hc (by omega)
    cases e
    rw [add_plain]
    exact hcell j x hx

/-- A write that is not kept. -/
theorem LR.skip {B0 B : Nat} {limit : Int} {w : World} {n : Nat} {c : List UInt8} {o : Bool} {wv : Value} {wr w' : World} {F : Nat → Prop} {ps' : List Pc} {m : Nat}
    (h : wr.ownsRow B0 5 1 wv c.length (bytesV c)) (hbel : Below B0 w wr) (hfew : c.length ≤ n) (hF : ∀ k, F k → B0 ≤ k ∧ k < wr.heap.size) (hg : ∀ g, wv.ownBlock = some g → ¬ F g) (hB0 : B0 ≤ wr.heap.size)
    (hcap : CapP w' B0 (Fr F wr w') B limit ps' o) (hcont : cont ps' = c) (honly : Only F wr w') (hm : n ≤ m) : LR B0 B limit w m c o wv w' := by
  have hsz := honly.size
  refine ⟨⟨_, ps', hcap, hcont, fun k hk => ?_, fun g hg' hf => ?_⟩, ?_, hbel.trans (honly.below (fun k hk => (hF k hk).1) hB0), by omega⟩
  · rcases hk with hk | hk
    · have := hF k hk; omega
    · omega
  · rcases hf with hf | hf
    · exact hg g hg' hf
    · have := (h.lt g hg').2; omega
  · exact owns_kept h (fun g hg' => honly.block g (h.lt g hg').2 (hg g hg'))

/-- A write that is kept. -/
theorem LR.more {B0 B : Nat} {limit : Int} {w : World} {n : Nat} {c l : List UInt8} {o : Bool} {wv wv' : Value} {wr w' w2 : World} {F : Nat → Prop} {ps' : List Pc} {m : Nat}
    (h : wr.ownsRow B0 5 1 wv c.length (bytesV c)) (hbel : Below B0 w wr) (hfew : c.length ≤ n) (hF : ∀ k, F k → B0 ≤ k ∧ k < wr.heap.size) (hg : ∀ g, wv.ownBlock = some g → ¬ F g) (hB0 : B0 ≤ wr.heap.size)
    (hcap : CapP w' B0 (Fr F wr w') B limit ps' o) (hcont : cont ps' = c ++ l) (honly : Only F wr w') (hm : n + l.length ≤ m)
    (hown : w2.ownsRow B0 5 1 wv' (c.length + l.length) (bytesV c ++ bytesV l)) (hgrow : w'.grownBy w2 wv.ownBlock) (hat : wv'.ownBlock = wv.ownBlock ∨ wv'.ownBlock = some w'.heap.size) : LR B0 B limit w m (c ++ l) o wv' w2 := by
  have hsz := honly.size
  have hs2 := hgrow.size
  have hF' : ∀ k, Fr F wr w' k → B0 ≤ k ∧ k < w'.heap.size := fun k hk => by
    rcases hk with hk | hk
    · have := hF k hk; omega
    · omega
  have hg' : ∀ g, wv.ownBlock = some g → ¬ Fr F wr w' g := fun g hg0 hf => by
    rcases hf with hf | hf
    · exact hg g hg0 hf
    · have := (h.lt g hg0).2; omega
  have hk : Kept (Fr F wr w') w' w2 := fun k hk => hgrow.block k (hF' k hk).2 (fun e => hg' k e.symm hk)
  refine ⟨⟨_, ps', hcap.kept hk (fun _ h => h), hcont, fun k hk => ?_, fun g hg0 hf => ?_⟩, ?_, ?_, ?_⟩
  · have := hF' k hk; omega
  · rcases hat with hat | hat
    · exact hg' g (hat ▸ hg0) hf
    · rw [hat] at hg0
      cases hg0
      have := (hF' _ hf).2
      omega
  · rw [List.length_append, bytesV_append]; exact hown
  · exact (hbel.trans (honly.below (fun k hk => (hF k hk).1) hB0)).grown hgrow (by omega) (fun k hk => (h.lt k hk).1)
  · rw [List.length_append]; omega

set_option maxRecDepth 100000 in
set_option maxHeartbeats 4000000 in
theorem law1_walk (hkeep : KeepSaid) (limit : Int) (a : Option Addr) (n cc : Nat) (ls : List (List UInt8)) (w : World) (hlim : limit ≤ 9223372036854775807) (hn : ls.length = n) (mn : n ≤ maxLen) (hch : Chunks w w.heap.size a ls) (hnil : NilNone w a n) :
    Calls Tryd.prog 3 #[.int .i64 limit, .slice a n cc] w fun e w' => e = .returned (.bool true) ∧ Below w.heap.size w w' := by
  obtain ⟨i5, hi5, hz5, hs5, hb5⟩ := info_parts info5
  go_enter Tryd.func3, Tryd.ntmps3
  go_wp2_with fail
  refine (bytesKeeps_any limit a n cc w.heap.size ls w hn hch mn).mono ?_
  rintro e w' ⟨r, rfl, rfl, _⟩
  unfold maxLen at mn
  cases r
  · go_wp2
    go_ret
    exact ⟨rfl, Below.refl _ _⟩
  by_cases h1 : n ≤ 65536
  · go_wp2_with fail
    refine (chunksFit_any none 0 0 a n cc w.heap.size ls w hn hch (by omega) h1).mono ?_
    rintro e w' ⟨r, rfl, rfl, htot⟩
    cases r
    · go_wp2
      go_ret
      exact ⟨rfl, Below.refl _ _⟩
    have HT : Hid (total ls ≤ 1048576) := htot rfl
    clear htot
    go_wp2_with fail
    refine (new_any limit _ w none 0 0 rfl).mono ?_
    rintro e w1 ⟨rfl, hw1⟩
    have HI : Hid (LR w.heap.size w.heap.size limit w 0 [] false (.slice none 0 0) w1) := by
      subst hw1
      refine ⟨⟨fun k => k = w.heap.size, [], ⟨⟨.slice none 0 0, heap_alloc_new w _, ⟨World.ownsRow_nil _ _ _ _, (fun g h => by cases h), (fun q h => by cases h), (fun init q h => by cases init <;> cases h)⟩⟩, rfl, Nat.le_refl _, by simp⟩, rfl, fun k hk => by simp; omega, fun g h => by cases h⟩, World.ownsRow_nil _ _ _ _, (Below.refl _ _).alloc (Nat.le_refl _) _, by simp⟩
    have HN : Hid (ls.length = n) := hn
    have HC : Hid (Chunks w w.heap.size a ls) := hch
    have HNN : Hid (NilNone w a n) := hnil
    clear hw1 hn hch hnil
    generalize hB : w.heap.size = B at *
    have HB : Hid (w.heap.size = B) := hB
    clear hB
    go_wp2
    go_loopw [6, 7, 8, 9] (fun wv kv ov iv wr => ∃ (k : Nat) (c : List UInt8) (o : Bool), k ≤ n ∧ iv = .int .i64 k ∧ ov = .bool o ∧ kv = .int .i64 (c.length : Int) ∧ LR B B limit w (total (ls.take k)) c o wv wr)
      (fun _ _ _ iv _ => n - (intOf iv).toNat)
    case atStart => exact ⟨0, [], false, by omega, rfl, rfl, rfl, HI.out⟩
    case round =>
      obtain ⟨k, c, o, hk, rfl, rfl, rfl, hlr⟩ := hrel
      by_cases hlt : k < n
      · obtain ⟨pb, po, v, l, hao, hpB, hcell0, hl, hh⟩ := HC.out k (by rw [HN.out]; exact hlt)
        subst hao
        have hcell := (hlr.below.cell (p := ⟨pb, po + k, none⟩) hpB).trans hcell0
        obtain ⟨F, ps, hcap, hcont, hF, hg⟩ := hlr.cap
        have hB0 : B ≤ wr.heap.size := by have h1 := hlr.below.size; have h2 := HB.out; omega
        have hfew := hlr.few
        have htk := total_take_succ hl
        have htl := total_take_le ls (k + 1)
        have htt := HT.out
        have hbd : c.length + l.length ≤ 1048576 := by omega
        have hW := capWrite_plain hkeep B B F (· < B) limit ps o v l wr hcap (hh.below hlr.below) (fun b hb => ⟨by omega, fun hf => by have := (hF b hf).1; omega⟩) hlim (by rw [hcont]; omega) hB0
        have hsrc := fun w' (hb : Below B w w') => hh.below hb
        obtain ⟨p, cp, rfl, _⟩ := hh
        rw [hcont] at hW
        have hcp0 : p = none → cp = 0 := fun e => by subst e; exact HNN.out k pb po _ cp hlt rfl hcell0
        have HTK : Hid (total (ls.take k) + l.length ≤ total (ls.take (k + 1))) := by unfold Hid; omega
        have HL : Hid (c.length ≤ total (ls.take k)) := hfew
        have HO : Hid (wr.ownsRow B 5 1 u6 c.length (bytesV c) ∧ Below B w wr ∧ (∀ k, F k → B ≤ k ∧ k < wr.heap.size) ∧ ∀ g, u6.ownBlock = some g → ¬ F g) := ⟨hlr.want, hlr.below, hF, hg⟩
        have HS : Hid (∀ w', Below B w w' → Held w' (· < B) (.slice p l.length cp) l) := hsrc
        clear hsrc hlr hcell0 hl hcap hcont hF hg hfew htk htl htt
        generalize hm : l.length = m at *
        have HM : Hid (l.length = m) := hm
        clear hm
        go_wp2_with fail
        refine hW.mono ?_
        rintro e w2 ⟨rfl, ps', hcap', hcont', honly'⟩
        have HR : Hid (CapP w2 B (Fr F wr w2) B limit ps' (stepB limit c o l) ∧ cont ps' = stepC limit c o l ∧ Only F wr w2) := ⟨hcap', hcont', honly'⟩
        clear hcap' hcont' honly' hW
        have hne : ((m : Int) != (m : Int)) = false := by simp
        by_cases hst : stepB limit c o l = true
        · have HST : Hid (stepB limit c o l = true) := hst
          have hcase : o = true ∨ o = false ∧ limit < (c.length : Int) + (m : Int) := by
            have := HM.out
            cases o
            · right; simp [stepB] at hst; exact ⟨rfl, by omega⟩
            · exact .inl rfl
          clear hst
          rcases hcase with rfl | ⟨rfl, hgt⟩
          all_goals
            go_wp2
            go_roundw
            case rel =>
              obtain ⟨h1, h2, h3⟩ := HR.out
              obtain ⟨h4, h5, h6, h7⟩ := HO.out
              unfold stepC at h2
              rw [HST.out] at h1 h2
              exact ⟨k + 1, c, true, by omega, by go_num, rfl, rfl, LR.skip h4 h5 HL.out h6 h7 hB0 h1 h2 h3 (by have := HTK.out; omega)⟩
            case measure => simp [intOf]; omega
        · have HST : Hid (stepB limit c o l = false) := by simpa [Hid] using hst
          have hcase : o = false ∧ (c.length : Int) + (m : Int) ≤ limit := by
            have := HM.out
            cases o
            · refine ⟨rfl, ?_⟩; simp [stepB] at hst; omega
            · simp [stepB] at hst
          clear hst
          obtain ⟨rfl, hle⟩ := hcase
          have HBW : Hid (Below B w w2) := HO.out.2.1.trans (HR.out.2.2.below (fun k hk => (HO.out.2.2.1 k hk).1) hB0)
          have HOW : Hid (w2.ownsRow B 5 1 u6 c.length (bytesV c)) := owns_kept HO.out.1 (fun g hg => HR.out.2.2.block g (HO.out.1.lt g hg).2 (HO.out.2.2.2 g hg))
          have hB2 : B ≤ w2.heap.size := by have := HR.out.2.2.size; omega
          rcases src_of_held (HS.out w2 HBW.out) HM.out with ⟨rfl, hl0⟩ | ⟨ad, rfl, hnews⟩
          · have hm0 : m = 0 := by rw [← HM.out, hl0]; rfl
            have hc0 := hcp0 rfl
            subst hm0 hc0
            have HL0 : Hid (l = []) := hl0
            clear hl0 hcp0
            go_wp2_with (at_builtin; refine wpList_append_own_none rfl _ _ 27 rfl B 5 i5 1 Tryd.underlying27 hi5 u6 c.length (bytesV c) rfl HOW.out rfl ?_)
            go_roundw
            case rel =>
              obtain ⟨h1, h2, h3⟩ := HR.out
              obtain ⟨h4, h5, h6, h7⟩ := HO.out
              unfold stepC at h2
              rw [HST.out] at h1 h2
              rw [HL0.out] at h2
              simp only [List.append_nil, Bool.false_eq_true, if_false] at h2
              exact ⟨k + 1, c, false, by omega, by go_num, rfl, by go_num, LR.skip h4 h5 HL.out h6 h7 hB0 h1 h2 h3 (by have := HTK.out; omega)⟩
            case measure => simp [intOf]; omega
          · have HNW : Hid (∀ j u, (bytesV l)[j]? = some u → w2.cell? (ad.add j) = some u) := hnews
            clear hnews hcp0
            go_wp2_with (at_builtin; refine wpList_append_own_at _ rfl _ _ 27 rfl B 5 i5 (.int .u8 0) 1 1 Tryd.underlying27 hi5 hz5 hs5 hb5 rfl (by decide) u6 c.length (bytesV c) rfl HOW.out ad m cp (bytesV l) rfl (by rw [bytesV_length, HM.out, Nat.mul_one]) HNW.out bytesV_one (by unfold maxLen; omega) (by omega) hB2 ?_; intro v3 w3 hown3 hgrow3 _ hat3; have H3 : Hid (w3.ownsRow B 5 1 v3 (c.length + m) (bytesV c ++ bytesV l) ∧ w2.grownBy w3 u6.ownBlock ∧ (v3.ownBlock = u6.ownBlock ∨ v3.ownBlock = some w2.heap.size)) := ⟨hown3, hgrow3, hat3⟩; clear hown3 hgrow3 hat3)
            go_roundw
            case rel =>
              obtain ⟨h1, h2, h3⟩ := HR.out
              obtain ⟨h4, h5, h6, h7⟩ := HO.out
              obtain ⟨h8, h9, h10⟩ := H3.out
              unfold stepC at h2
              rw [HST.out] at h1 h2
              rw [← HM.out] at h8
              exact ⟨k + 1, c ++ l, false, by omega, by go_num, rfl, by rw [List.length_append, HM.out]; go_num, LR.more h4 h5 HL.out h6 h7 hB0 h1 h2 h3 (by have := HTK.out; rw [HM.out]; omega) h8 h9 h10⟩
            case measure => simp [intOf]; omega
      · have hkn : k = n := by omega
        subst hkn
        obtain ⟨F, ps, hcap, hcont, hF, hg⟩ := hlr.cap
        have hcl : c.length ≤ 1048576 := by
          have h1 := hlr.few
          have h2 := total_take_le ls k
          have h3 := HT.out
          omega
        have HL : Hid (LR B B limit w (total (ls.take k)) c o u6 wr) := hlr
        have hBt := bytesOf_plain B B F limit ps o wr hcap (by rw [hcont]; omega)
        rw [hcont] at hBt
        clear hlr hcap hF hg hcont
        go_wp2_with fail
        refine hBt.mono ?_
        rintro e w2 ⟨v, rfl, hv, hb2⟩
        have hwant : Held w2 (fun _ => True) u6 c := held_of_ownsV (owns_kept HL.out.want (fun g hg => hb2.block g (HL.out.want.lt g hg).2)) rfl
        have hSm := same_any (fun _ => True) (fun _ => True) v u6 c w2 hv hwant
        have HB2 : Hid (Below B w w2) := HL.out.below.trans (hb2.mono (by have h1 := HL.out.below.size; have h2 := HB.out; omega))
        have hs2 : B ≤ w2.heap.size := by have h1 := HL.out.below.size; have h2 := HB.out; have h3 := hb2.size; omega
        obtain ⟨pa, ca, rfl, _⟩ := hv
        obtain ⟨pb, cb, rfl, _⟩ := hwant
        clear hBt hb2 HL
        go_wp2_with fail
        refine hSm.mono ?_
        rintro e w3 ⟨rfl, hb3⟩
        have HB3 : Hid (Below B w w3) := HB2.out.trans (hb3.mono hs2)
        clear hb3 hSm
        go_wp2
        go_ret
        exact ⟨rfl, by rw [HB.out]; exact HB3.out⟩
  · go_wp2
    go_ret
    exact ⟨rfl, Below.refl _ _⟩

end Go.Proofs.Qxb6612609aDoor
