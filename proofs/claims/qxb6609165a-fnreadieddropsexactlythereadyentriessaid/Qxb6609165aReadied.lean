/-
  Readied.
-/
import Derived.Test.Qxb6609165aNext
import Derived.Deep.RegionHeld3
import Derived.LaidEqlPtr
namespace Go.Proofs.Qxb6609165a
open Go.RowKit

theorem info56 : (Try.prog.info? 56).map (fun i => (i.zero, i.size, i.bytes)) = some (some (.agg #[.int .i64 0, .int .u64 0, .slice none 0 0, .slice none 0 0]), 4, 64) := by kernel_rfl

theorem ptr_same (W : World) (a : Addr) : (binOp .eql 29 (.pointer (some a)) (.pointer (some a))).run Try.prog W = .ok (.bool true) W := by
  obtain ⟨i0, hi0, _⟩ := info_parts info56
  exact run_eql_ptr_same W a Try.underlying29 hi0

theorem ptr_other (W : World) {A B : Nat} (hne : A ≠ B) (ha : Plainly W A) (hb : Plainly W B) : (binOp .eql 29 (.pointer (some ⟨A, 0, none⟩)) (.pointer (some ⟨B, 0, none⟩))).run Try.prog W = .ok (.bool false) W := by
  obtain ⟨i0, hi0, _, hz, _⟩ := info_parts info56
  obtain ⟨ca, ta, ha⟩ := ha
  obtain ⟨cb, tb, hb⟩ := hb
  exact run_eql_ptr_other W Try.underlying29 hi0 (by omega) (fun e => hne (by injection e)) ha hb

theorem but_cell {B o k : Nat} {w w' : World} {u : Value} (h : But ⟨B, o, none⟩ w w') (hc : w.cell? ⟨k, 0, none⟩ = some u) (hne : k ≠ B) : w'.cell? ⟨k, 0, none⟩ = some u := by
  rw [h.cell _ (cell_lt hc) (fun e => hne (by injection e))]
  exact hc

theorem Nb.sb_lt {rd : Nat → ByteArray → Bool} {tf te av : Value} {ss : List SlotD} {N i j tb sb cap k : Nat} {s : SlotD} {wr : World} (h : Nb rd tf te av ss N i j tb sb cap wr) (hk : ss[k]? = some s) : sb < wr.heap.size := by
  obtain ⟨_, _, v, hv, _⟩ := h.slots k s hk
  exact cell_lt hv

/-- What Readied leaves. -/
def ReadiedRes (rd : Nat → ByteArray → Bool) (T : Nat) (tf te av : Value) (ss : List SlotD) (w : World) (e : Ending) (w' : World) : Prop :=
  ∃ nv, e = .returned nv ∧ Below w.heap.size w w' ∧ Nx rd T tf te av ss w.heap.size ss.length 0 nv w'

set_option maxRecDepth 50000 in
set_option maxHeartbeats 2000000 in
theorem readied_any (fid : Nat) (caps : Array Value) (rd : Nat → ByteArray → Bool) (T : Nat) (fm ep : Int) (sv : Value) (ap : Option Addr) (an ac : Nat) (ss : List SlotD) (w : World)
    (t0 : w.cell? ⟨T, 0, none⟩ = some (.int .i64 fm)) (t1 : w.cell? ⟨T, 1, none⟩ = some (.int .u64 ep)) (t2 : w.cell? ⟨T, 2, none⟩ = some sv) (t3 : w.cell? ⟨T, 3, none⟩ = some (.slice ap an ac))
    (tob : Plainly w T) (hs : SLs w sv ss) (hasc : ∀ s ∈ ss, Asc s.es) (hn : ss.length ≤ 16384) (hes : ∀ s ∈ ss, s.es.length ≤ 1048576)
    (hcf : ∀ args W, (callFunc fid args).run Try.prog W = .ok (.enter fid args) W)
    (Hcl : ∀ wr, Below w.heap.size w wr → ∀ (i : Nat) (a : ByteArray) (s : Int), Calls Try.prog fid (#[.int .i64 i, .agg #[.string a, .int .u64 s]] ++ caps) wr (Gives (.bool (rd i a)) wr)) :
    Calls Try.prog 17 #[.pointer (some ⟨T, 0, none⟩), .func (.func fid) #[] caps] w (ReadiedRes rd T (.int .i64 fm) (.int .u64 ep) (.slice ap an ac) ss w) := by
  have HS : Hid (SLs w sv ss) := hs
  obtain ⟨p, cap, rfl, hl, hm, _, HC⟩ := hs.opened
  have HA : Hid (∀ s ∈ ss, Asc s.es) := hasc
  have HE : Hid (∀ s ∈ ss, s.es.length ≤ 1048576) := hes
  have HCL : Hid (∀ wr, Below w.heap.size w wr → ∀ (i : Nat) (a : ByteArray) (s : Int), Calls Try.prog fid (#[.int .i64 i, .agg #[.string a, .int .u64 s]] ++ caps) wr (Gives (.bool (rd i a)) wr)) := Hcl
  clear hs hasc hes Hcl
  unfold maxLen at hm
  go_enter Try.func17, Try.ntmps17
  go_wp2
  go_loopw [5, 16] (fun nv iv wr => Below w.heap.size w wr ∧ ∃ (i : Nat), i ≤ ss.length ∧ iv = .int .i64 i ∧ Nx rd T (.int .i64 fm) (.int .u64 ep) (.slice ap an ac) ss w.heap.size i 0 nv wr) (fun _ iv _ => ss.length - (intOf iv).toNat)
  case atStart =>
    refine ⟨Below.refl _ _, 0, by omega, rfl, .inl ⟨rfl, fun k s _ x hx => ?_⟩⟩
    have : doneAt 0 0 k s = 0 := by unfold doneAt; simp
    rw [this] at hx
    simp at hx
  case round =>
    obtain ⟨hb, i, hi, rfl, hnx⟩ := hrel
    have HB : Hid (Below w.heap.size w wr) := hb
    have HX : Hid (Nx rd T (.int .i64 fm) (.int .u64 ep) (.slice ap an ac) ss w.heap.size i 0 u5 wr) := hnx
    clear hb hnx
    by_cases hlt : i < ss.length
    · obtain ⟨s, hsi⟩ : ∃ s, ss[i]? = some s := ⟨_, List.getElem?_eq_getElem hlt⟩
      obtain ⟨b, off, rfl, ⟨c0, c1, c2, c3, c4⟩, hsl, hfl, hnr⟩ := HC.out i s hsi
      have HSI : Hid (ss[i]? = some s) := hsi
      have HN : Hid (NRL w s.nr s.es) := hnr
      obtain ⟨np, ncap, hnv, hnl, hnm, _, NC⟩ := hnr.opened
      rw [hnv] at c4
      obtain ⟨fp, fcap, hfv, _, _, _, _⟩ := hfl.opened
      rw [hfv] at c3
      have hel : s.es.length ≤ 1048576 := HE.out s (List.mem_of_getElem? hsi)
      have HNV : Hid (s.nr = .slice np s.es.length ncap) := hnv
      replace c0 := cell_later HB.out c0
      replace c1 := cell_later HB.out c1
      replace c2 := cell_later HB.out c2
      replace c3 := cell_later HB.out c3
      replace c4 := cell_later HB.out c4
      clear hfl hnr hnv hsi hsl hfv
      unfold maxLen at hnm
      go_wp2
      generalize hW1 : wr.alloc _ = w1
      have hb1 : Below w.heap.size w w1 := by rw [← hW1]; exact HB.out.alloc HB.out.size _
      have HX1 : Hid (Nx rd T (.int .i64 fm) (.int .u64 ep) (.slice ap an ac) ss w.heap.size i 0 u5 w1) := by rw [← hW1]; exact HX.out.later ((Below.refl _ _).alloc (Nat.le_refl _) _)
      clear hW1 c0 c1 c2 c3 c4
      go_loopw [5, 24] (fun nv jv wr => Below w.heap.size w wr ∧ ∃ (j : Nat), j ≤ s.es.length ∧ jv = .int .i64 j ∧ Nx rd T (.int .i64 fm) (.int .u64 ep) (.slice ap an ac) ss w.heap.size i j nv wr) (fun _ jv _ => s.es.length - (intOf jv).toNat)
      case atStart => exact ⟨hb1, 0, by omega, rfl, HX1.out⟩
      case round =>
        clear HB HX HX1 hb1
        obtain ⟨hb, j, hj, rfl, hnx⟩ := hrel
        have HB : Hid (Below w.heap.size w wr) := hb
        have HX : Hid (Nx rd T (.int .i64 fm) (.int .u64 ep) (.slice ap an ac) ss w.heap.size i j u5 wr) := hnx
        clear hb hnx
        by_cases hjt : j < s.es.length
        · obtain ⟨xa, xs, hx⟩ := get_nr hjt
          obtain ⟨nb, noff, rfl, d1, d2, _⟩ := NC.out j _ hx
          have HXJ : Hid (s.es[j]? = some (xa, xs)) := hx
          replace d1 := cell_later HB.out d1
          replace d2 := cell_later HB.out d2
          dsimp only at d1 d2
          clear hx
          by_cases hr : rd i xa = true
          · have hT : T < w.heap.size := cell_lt t0
            rcases HX.out with ⟨rfl, hq⟩ | ⟨tb, sb, ncp, rfl, hnb, _⟩
            · have hpos : 0 < ss.length := by omega
              have HQ : Hid (∀ k s, ss[k]? = some s → ∀ x ∈ s.es.take (doneAt i j k s), rd k x.1 = false) := hq
              clear hq
              go_wp2_with (refine (HCL.out _ ?hbb _ _ _).mono ?_; (case hbb => exact HB.out.alloc HB.out.size _); rintro e w2 ⟨rfl, hb2⟩; have hbb : Below wr.heap.size wr w2 := ((Below.refl _ _).alloc (Nat.le_refl _) _).trans (hb2.mono (size_alloc _ _)); have hpe := ptr_same w2 ⟨T, 0, none⟩)
              have hbw : Below w.heap.size w w2 := HB.out.trans (hbb.mono HB.out.size)
              have e0 := cell_later hbw t0
              have e1 := cell_later hbw t1
              have e2 := cell_later hbw t2
              have e3 := cell_later hbw t3
              have hbd : Below w.heap.size w w2.drew := hbw.drew
              have HCLN : Hid (Calls Try.prog 33 #[.slice (some ⟨b, off, none⟩) ss.length cap] w2.drew (OwnRes 60 5 (ss.map SlotD.row) w2.drew)) :=
                cloneSlots_any _ _ _ ((HS.out.later hbd).1) (row_len ss) (row_one HS.out) (by rw [List.length_map]; exact hpos) (by rw [List.length_map]; omega)
              have HBW : Hid (Below w.heap.size w w2.drew) := hbd
              have he2 : w2.cell? ⟨wr.heap.size, 0, none⟩ = some (.string xa) := cell_later hb2 (by simp)
              clear hbw hbd
              go_region_held3 (fun w' => w'.cell? ⟨T, 0, none⟩ = some (.int .i64 fm) ∧ w'.cell? ⟨T, 1, none⟩ = some (.int .u64 ep) ∧ w'.cell? ⟨T, 2, none⟩ = some (.slice (some ⟨b, off, none⟩) ss.length cap) ∧ w'.cell? ⟨T, 3, none⟩ = some (.slice ap an ac))
                (first | go_keep | (go_split_ands; exact ⟨cell_later hb3 (by assumption), cell_later hb3 (by assumption), cell_later hb3 (by assumption), cell_later hb3 (by assumption)⟩)) ((go_at_call 33; refine HCLN.out.mono ?_; rintro e w3 ⟨v3, rfl, hb3, hown⟩; rw [List.length_map] at hown; obtain ⟨sb, ncp, rfl, hsb, hcp, hcpm⟩ := own_form hown hpos))
              have hb34 := HBW.out.trans (hb3.mono HBW.out.size)
              have hnb4 := Nb.make (rd := rd) (i := i) (j := j) (tf := .int .i64 fm) (te := .int .u64 ep) (av := .slice ap an ac) HS.out rfl hb34 HBW.out.size hown hsb hcp hcpm HQ.out
              have hbw4 : Below w.heap.size w (w3.alloc (.cells #[.int .i64 fm, .int .u64 ep, .slice (some ⟨sb, 0, none⟩) ss.length ncp, .slice ap an ac] 56 (0, 0))) := hb34.alloc hb34.size _
              have he4 : (w3.alloc (.cells #[.int .i64 fm, .int .u64 ep, .slice (some ⟨sb, 0, none⟩) ss.length ncp, .slice ap an ac] 56 (0, 0))).cell? ⟨wr.heap.size, 0, none⟩ = some (.string xa) :=
                cell_later ((Below.refl _ _).alloc (Nat.le_refl _) _) (cell_later hb3 he2)
              have hsbne : wr.heap.size ≠ sb := by
                have h7 : wr.heap.size + 1 ≤ w2.heap.size := by have := hb2.size; rw [show (wr.alloc (Obj.cells #[Value.string xa, Value.int IntKind.u64 xs] 49)).heap.size = wr.heap.size + 1 by simp] at this; exact this
                have h8 : w2.heap.size ≤ sb := hsb
                omega
              generalize hW4 : w3.alloc (.cells #[.int .i64 fm, .int .u64 ep, .slice (some ⟨sb, 0, none⟩) ss.length ncp, .slice ap an ac] 56 (0, 0)) = w4 at *
              generalize htb : w3.heap.size = tb at *
              have hnb2 := hnb4
              have hbw := hbw4
              have hc2 := hnb2.c2
              have he3 : w4.drew.cell? ⟨wr.heap.size, 0, none⟩ = some (.string xa) := he4
              clear hnb4 hbw4 hb3 hown hb34 e0 e1 e2 e3 hW4 htb hpe hsb
              go_wp2_with fail
              have HMK : Hid (Calls Try.prog 34 #[.pointer (some ⟨sb, i * 5, none⟩), .string xa] w4.drew (Marked sb (i * 5) (cur rd i s.es (j + 1)) w4.drew)) := (hnb2.later (Below.refl _ _).drew).call HSI.out HXJ.out hr (HA.out s (List.mem_of_getElem? HSI.out)) hel
              have HNB2 : Hid (Nb rd (.int .i64 fm) (.int .u64 ep) (.slice ap an ac) ss w.heap.size i j tb sb ncp w4.drew) := hnb2.later (Below.refl _ _).drew
              have HBW : Hid (Below w.heap.size w w4.drew) := hbw.drew
              clear hnb2 hbw
              go_region_held3 (fun w' => w'.cell? ⟨tb, 2, none⟩ = some (.slice (some ⟨sb, 0, none⟩) ss.length ncp) ∧ w'.cell? ⟨wr.heap.size, 0, none⟩ = some (.string xa))
                (go_keep) ((go_at_call 34; refine HMK.out.mono ?_; rintro e w5 ⟨rfl, hmk⟩; have k1 := (HNB2.out.mark (e := .returned (.tuple #[])) HSI.out HXJ.out hr ⟨rfl, hmk⟩).c2; have k2 := but_cell hmk.1 he3 hsbne))
              go_wp2
              have hn5 := HNB2.out.mark (e := .returned (.tuple #[])) HSI.out HXJ.out hr ⟨rfl, hmk⟩
              exact ⟨⟨HBW.out.trans (hmk.1.below.mono HNB2.out.hsb), j + 1, by omega, by go_num, .marked hn5 HSI.out HXJ.out hr⟩, by simp [intOf]; omega⟩
            · have HNB : Hid (Nb rd (.int .i64 fm) (.int .u64 ep) (.slice ap an ac) ss w.heap.size i j tb sb ncp wr) := hnb
              have hne : tb ≠ T := by have := hnb.htb; omega
              go_wp2_with (refine (HCL.out _ ?hbb _ _ _).mono ?_; (case hbb => exact HB.out.alloc HB.out.size _); rintro e w2 ⟨rfl, hb2⟩; have hbb : Below wr.heap.size wr w2 := ((Below.refl _ _).alloc (Nat.le_refl _) _).trans (hb2.mono (size_alloc _ _)); have hpe := ptr_other w2 hne (hnb.obj.later hbb) ((tob.later HB.out).later hbb))
              clear hnb
              have hnb2 := HNB.out.later hbb
              have he2 : w2.cell? ⟨wr.heap.size, 0, none⟩ = some (.string xa) := cell_later hb2 (by simp)
              have hc2 := hnb2.c2
              have hbw : Below w.heap.size w w2 := HB.out.trans (hbb.mono HB.out.size)
              have hsbne : wr.heap.size ≠ sb := by have h7 := HNB.out.sb_lt HSI.out; omega
              have he3 : w2.drew.cell? ⟨wr.heap.size, 0, none⟩ = some (.string xa) := he2
              have HMK : Hid (Calls Try.prog 34 #[.pointer (some ⟨sb, i * 5, none⟩), .string xa] w2.drew (Marked sb (i * 5) (cur rd i s.es (j + 1)) w2.drew)) := (hnb2.later (Below.refl _ _).drew).call HSI.out HXJ.out hr (HA.out s (List.mem_of_getElem? HSI.out)) hel
              have HNB2 : Hid (Nb rd (.int .i64 fm) (.int .u64 ep) (.slice ap an ac) ss w.heap.size i j tb sb ncp w2.drew) := hnb2.later (Below.refl _ _).drew
              have HBW : Hid (Below w.heap.size w w2.drew) := hbw.drew
              clear hnb2 hbw
              go_region_held3 (fun w' => w'.cell? ⟨tb, 2, none⟩ = some (.slice (some ⟨sb, 0, none⟩) ss.length ncp) ∧ w'.cell? ⟨wr.heap.size, 0, none⟩ = some (.string xa))
                (go_keep) ((go_at_call 34; refine HMK.out.mono ?_; rintro e w5 ⟨rfl, hmk⟩; have k1 := (HNB2.out.mark (e := .returned (.tuple #[])) HSI.out HXJ.out hr ⟨rfl, hmk⟩).c2; have k2 := but_cell hmk.1 he3 hsbne))
              go_wp2
              have hn5 := HNB2.out.mark (e := .returned (.tuple #[])) HSI.out HXJ.out hr ⟨rfl, hmk⟩
              exact ⟨⟨HBW.out.trans (hmk.1.below.mono HNB2.out.hsb), j + 1, by omega, by go_num, .marked hn5 HSI.out HXJ.out hr⟩, by simp [intOf]; omega⟩
          · have hrf : rd i xa = false := by simpa using hr
            clear hr
            go_wp2_with (refine (HCL.out _ ?hbb _ _ _).mono ?_; (case hbb => exact HB.out.alloc HB.out.size _); rintro e w2 ⟨rfl, hb2⟩)
            refine ⟨⟨HB.out.trans (((Below.refl _ _).alloc (Nat.le_refl _) _ |>.trans (hb2.mono (size_alloc _ _))).mono HB.out.size), j + 1, by omega, by go_num, (HX.out.later ((Below.refl _ _).alloc (Nat.le_refl _) _ |>.trans (hb2.mono (size_alloc _ _)))).skip HSI.out HXJ.out hrf⟩, by simp [intOf]; omega⟩
        · obtain rfl : j = s.es.length := by omega
          go_wp2
          exact ⟨⟨HB.out, i + 1, by omega, by go_num, HX.out.next HSI.out⟩, by simp [intOf]; omega⟩
    · obtain rfl : i = ss.length := by omega
      go_wp2
      go_ret
      exact ⟨_, rfl, HB.out, HX.out⟩

end Go.Proofs.Qxb6609165a
