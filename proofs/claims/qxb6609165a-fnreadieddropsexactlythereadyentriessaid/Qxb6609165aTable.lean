/-
  zzToTable.
-/
import Derived.Test.Qxb6609165aFill
import Derived.Deep.DeepCutAuto
import Derived.Laws.MakeOwn
namespace Go.Proofs.Qxb6609165a
open Go.RowKit

/-- A slot and its copy. -/
structure Copied (s s' : SlotD) : Prop where
  id : s'.id = s.id
  leader : s'.leader = s.leader
  lepoch : s'.lepoch = s.lepoch
  fol : s'.fol = s.fol
  fs : s'.fs = s.fs
  es : s'.es = s.es
  nil : s'.nr = .slice none 0 0 ↔ s.nr = .slice none 0 0

def Copies (ss ss' : List SlotD) : Prop := ss'.length = ss.length ∧ ∀ (k : Nat) s s', ss[k]? = some s → ss'[k]? = some s' → Copied s s'

/-- The slots, copied. -/
def SlotsMade (w : World) (ss : List SlotD) (v : Value) (wx : World) : Prop := Below w.heap.size w wx ∧ ∃ ss', SLs wx v ss' ∧ Copies ss ss'

/-- The first slots copied into block sb. -/
def Part (w : World) (ss : List SlotD) (sb i : Nat) (wr : World) : Prop :=
  Below w.heap.size w wr ∧ w.heap.size ≤ sb ∧ ∃ done : List SlotD, done.length = i ∧ (∀ (k : Nat) s s', ss[k]? = some s → done[k]? = some s' → Copied s s') ∧ Filling 5 sb ss.length (done.map SlotD.row) wr ∧ ∀ s' ∈ done, NRL wr s'.nr s'.es ∧ Apart s'.nr sb

/-- The addresses, copied. -/
def AddrsMade (wr : World) (adl : List (ByteArray × ByteArray)) (av v : Value) (wx : World) : Prop := Below wr.heap.size wr wx ∧ AL wx v adl ∧ (v = .slice none 0 0 ↔ av = .slice none 0 0)

/-- Addresses as rows. -/
def adRows (c : List (ByteArray × ByteArray)) : List (List Value) := c.map fun x => [.string x.1, .string x.2]
theorem adRows_length (c : List (ByteArray × ByteArray)) : (adRows c).length = c.length := by unfold adRows; simp

/-- The table that zzToTable lays. -/
def TableMade (fm ep : Int) (av : Value) (ss : List SlotD) (adl : List (ByteArray × ByteArray)) (w : World) (e : Ending) (w' : World) : Prop :=
  ∃ T sv' av' ss', e = .returned (.pointer (some ⟨T, 0, none⟩)) ∧ Below w.heap.size w w' ∧ w.heap.size ≤ T ∧ Plainly w' T ∧ w'.cell? ⟨T, 0, none⟩ = some (.int .i64 fm) ∧ w'.cell? ⟨T, 1, none⟩ = some (.int .u64 ep) ∧ w'.cell? ⟨T, 2, none⟩ = some sv' ∧ w'.cell? ⟨T, 3, none⟩ = some av' ∧
    SLs w' sv' ss' ∧ Copies ss ss' ∧ AL w' av' adl ∧ (av' = .slice none 0 0 ↔ av = .slice none 0 0)

/-- The list of one slot, copied behind the world wr. -/
def NrMade (wr : World) (s : SlotD) (v : Value) (wx : World) : Prop := Below wr.heap.size wr wx ∧ NRL wx v s.es ∧ (v = .slice none 0 0 ↔ s.nr = .slice none 0 0) ∧ ∀ p n c, v = .slice (some p) n c → wr.heap.size ≤ p.block

theorem NRL.sets {w : World} {v : Value} {l : List (ByteArray × Int)} {B o : Nat} {vs : List Value} (h : NRL w v l) (ha : Apart v B) : NRL (w.setCells B o vs) v l := by
  obtain ⟨⟨p, cap, rfl, h1, h2, h3, h4⟩, h5⟩ := h
  refine ⟨⟨p, cap, rfl, h1, h2, h3, fun hp => ?_⟩, h5⟩
  obtain ⟨b, off, rfl, hc⟩ := h4 hp
  refine ⟨b, off, rfl, fun i r hr j x hx => ?_⟩
  have hbB : b ≠ B := ha _ _ _ rfl hp
  rw [World.cell?_setCells_out B vs o w ⟨b, off + i * 2 + j, none⟩ (fun e _ => absurd e hbB)]
  exact hc i r hr j x hx

theorem Part.next {w wr wc : World} {ss done : List SlotD} {sb i : Nat} {s : SlotD} {v : Value} (hlt : i < ss.length) (hsi : ss[i]? = some s) (hbx : Below w.heap.size w wc) (hsb : w.heap.size ≤ sb) (hsl : sb < wr.heap.size)
    (hd : done.length = i ∧ (∀ (k : Nat) s s', ss[k]? = some s → done[k]? = some s' → Copied s s') ∧ Filling 5 sb ss.length (done.map SlotD.row) wc ∧ ∀ s' ∈ done, NRL wc s'.nr s'.es ∧ Apart s'.nr sb)
    (hn : NrMade wr s v wc) : Part w ss sb (i + 1) (wc.setCells sb (i * 5) [.int .i64 s.id, .string s.leader, .int .u64 s.lepoch, s.fol, v]).drew := by
  obtain ⟨hdl, hcop, hfill, hnrs⟩ := hd
  obtain ⟨_, hnl, hnil, hap⟩ := hn
  have hva : Apart v sb := fun p n c e _ => by have := hap p n c e; omega
  refine ⟨(below_sets hsb _ _ hbx).drew, hsb, done ++ [{ s with nr := v }], by simp [hdl], fun k a a' hk hk' => ?_, ?_, fun s' hs' => ?_⟩
  · by_cases hkl : k < done.length
    · rw [List.getElem?_append_left hkl] at hk'
      exact hcop k a a' hk hk'
    · rw [List.getElem?_append_right (by omega)] at hk'
      have hk0 : k - done.length = 0 := by
        have := (List.getElem?_eq_some_iff.mp hk').1
        simp at this
        omega
      rw [hk0] at hk'
      obtain rfl : { s with nr := v } = a' := by simpa using hk'
      obtain rfl : s = a := by rw [show k = i by omega, hsi] at hk; exact Option.some.inj hk
      exact ⟨rfl, rfl, rfl, rfl, rfl, rfl, hnil⟩
  · have hnx := hfill.next (r := [.int .i64 s.id, .string s.leader, .int .u64 s.lepoch, s.fol, v]) (by rw [List.length_map, hdl]; exact hlt) rfl rfl
    rw [List.length_map, hdl] at hnx
    rw [List.map_append]
    exact hnx.later (Below.refl _ _).drew
  · rcases List.mem_append.mp hs' with h1 | h1
    · obtain ⟨h2, h3⟩ := hnrs s' h1
      exact ⟨(h2.sets h3).later (Below.refl _ _).drew, h3⟩
    · obtain rfl : s' = { s with nr := v } := by simpa using h1
      exact ⟨(hnl.sets hva).later (Below.refl _ _).drew, hva⟩

theorem neq23 (w : World) (a : Option Addr) (n c : Nat) : (binOp .neq 23 (.slice a n c) (.slice none 0 0)).run Try.prog w = .ok (.bool a.isSome) w := by
  simp only [binOp]
  simp [Op.equal, Op.maxDepth, Lib.run_equalIn_slice_nil (P := Try.prog) w 9999 23 41 a n c 0 0 Try.underlying23]
theorem neq39 (w : World) (a : Option Addr) (n c : Nat) : (binOp .neq 39 (.slice a n c) (.slice none 0 0)).run Try.prog w = .ok (.bool a.isSome) w := by
  simp only [binOp]
  simp [Op.equal, Op.maxDepth, Lib.run_equalIn_slice_nil (P := Try.prog) w 9999 39 53 a n c 0 0 Try.underlying39]
theorem neq24 (w : World) (a : Option Addr) (n c : Nat) : (binOp .neq 24 (.slice a n c) (.slice none 0 0)).run Try.prog w = .ok (.bool a.isSome) w := by
  simp only [binOp]
  simp [Op.equal, Op.maxDepth, Lib.run_equalIn_slice_nil (P := Try.prog) w 9999 24 66 a n c 0 0 Try.underlying24]

theorem info36 : (Try.prog.info? 36).map (fun i => (i.zero, i.size, i.bytes)) = some (some (.agg #[.string ByteArray.empty, .string ByteArray.empty]), 2, 32) := by kernel_rfl

theorem make54 (n : Nat) (hn : n ≤ 16384) : ∃ cs : Array Value, cs.size = n * 5 ∧ ∀ W : World, (Instr.makeSlice 54 (.int .i64 (n : Int)) (.int .i64 (n : Int))).run Try.prog W = .ok (.slice (some ⟨W.heap.size, 0, none⟩) n n) (W.alloc (.cells cs 60 (0, 0))) := by
  obtain ⟨i0, hi0, hz0, hs0, hb0⟩ := info_parts info60
  refine ⟨madeCells (Value.agg #[.int .i64 0, .string ByteArray.empty, .int .u64 0, .slice none 0 0, .slice none 0 0]).cells (n * 5), size_madeCells _ _, fun W => ?_⟩
  have := run_make (P := Try.prog) W 54 60 i0 _ Try.underlying54 hi0 hz0 .i64 .i64 (n : Int) (n : Int) (by omega) (by omega) (by rw [hb0]; omega) (by omega)
  rw [this, hs0, Int.toNat_natCast]
theorem make58 (n : Nat) (hn : n ≤ 1048576) : ∃ cs : Array Value, cs.size = n * 2 ∧ ∀ W : World, (Instr.makeSlice 58 (.int .i64 (n : Int)) (.int .i64 (n : Int))).run Try.prog W = .ok (.slice (some ⟨W.heap.size, 0, none⟩) n n) (W.alloc (.cells cs 49 (0, 0))) := by
  obtain ⟨i0, hi0, hz0, hs0, hb0⟩ := info_parts info49
  refine ⟨madeCells (Value.agg #[.string ByteArray.empty, .int .u64 0]).cells (n * 2), size_madeCells _ _, fun W => ?_⟩
  have := run_make (P := Try.prog) W 58 49 i0 _ Try.underlying58 hi0 hz0 .i64 .i64 (n : Int) (n : Int) (by omega) (by omega) (by rw [hb0]; omega) (by omega)
  rw [this, hs0, Int.toNat_natCast]
theorem make31 (n : Nat) (hn : n ≤ 32768) : ∃ cs : Array Value, cs.size = n * 2 ∧ ∀ W : World, (Instr.makeSlice 31 (.int .i64 (n : Int)) (.int .i64 (n : Int))).run Try.prog W = .ok (.slice (some ⟨W.heap.size, 0, none⟩) n n) (W.alloc (.cells cs 36 (0, 0))) := by
  obtain ⟨i0, hi0, hz0, hs0, hb0⟩ := info_parts info36
  refine ⟨madeCells (Value.agg #[.string ByteArray.empty, .string ByteArray.empty]).cells (n * 2), size_madeCells _ _, fun W => ?_⟩
  have := run_make (P := Try.prog) W 31 36 i0 _ Try.underlying31 hi0 hz0 .i64 .i64 (n : Int) (n : Int) (by omega) (by omega) (by rw [hb0]; omega) (by omega)
  rw [this, hs0, Int.toNat_natCast]

set_option maxRecDepth 50000 in
set_option maxHeartbeats 4000000 in
theorem toTable_any (fm ep : Int) (sv av : Value) (ss : List SlotD) (adl : List (ByteArray × ByteArray)) (w : World) (hs : SLs w sv ss) (ha : AL w av adl) (hn : ss.length ≤ 16384) (hna : adl.length ≤ 32768) (hes : ∀ s ∈ ss, s.es.length ≤ 1048576) :
    Calls Try.prog 9 #[.int .i64 fm, .int .u64 ep, sv, av] w (TableMade fm ep av ss adl w) := by
  have HS : Hid (SLs w sv ss) := hs
  have HAL : Hid (AL w av adl) := ha
  obtain ⟨p, cap, rfl, hl, hm, hpn, HC⟩ := hs.opened
  obtain ⟨pa, capa, rfl, hla, hma, hpa, AC⟩ := ha.opened
  have HE : Hid (∀ s ∈ ss, s.es.length ≤ 1048576) := hes
  clear hs ha hes
  unfold maxLen at hm hma
  have q23 := neq23
  have q39 := neq39
  have q24 := neq24
  go_enter Try.func9, Try.ntmps9
  go_upto_if 16 with fail
  go_cut [9] (fun v wx => SlotsMade w ss v wx)
  case first =>
    by_cases hp0 : p = none
    · subst hp0
      obtain ⟨rfl, rfl⟩ := hpn rfl
      go_wp2
      go_meet
      case rel => exact ⟨Below.refl _ _, [], ⟨⟨none, 0, rfl, by simp, by unfold maxLen; omega, fun _ => ⟨rfl, rfl⟩, fun h => by simp at h⟩, fun s hs => by simp at hs⟩, rfl, fun k s s' hk => by simp at hk⟩
    · obtain ⟨a0, rfl⟩ := Option.ne_none_iff_exists'.mp hp0
      obtain ⟨cs, hcs, hmk⟩ := make54 ss.length hn
      have HP : Hid (Part w ss w.heap.size 0 (w.alloc (.cells cs 60 (0, 0)))) := ⟨(Below.refl _ _).alloc (Nat.le_refl _) _, Nat.le_refl _, [], rfl, fun k s s' _ h => by simp at h, Filling.start hcs, fun s' h => by simp at h⟩
      clear hpn hp0
      simp only [Option.isSome_some]
      go_wp2
      generalize hW1 : w.alloc _ = w1 at *
      clear hmk hW1
      generalize hsb : w.heap.size = sb at *
      go_loopw [10] (fun iv wr => ∃ (i : Nat), i ≤ ss.length ∧ iv = .int .i64 i ∧ Part w ss sb i wr) (fun iv _ => ss.length - (intOf iv).toNat)
      case atStart => exact ⟨0, by omega, rfl, HP.out⟩
      case round =>
        clear HP
        obtain ⟨i, hi, rfl, hpart⟩ := hrel
        have HP : Hid (Part w ss sb i wr) := hpart
        clear hpart
        by_cases hlt : i < ss.length
        · obtain ⟨s, hsi⟩ : ∃ s, ss[i]? = some s := ⟨_, List.getElem?_eq_getElem hlt⟩
          obtain ⟨b, off, e, ⟨c0, c1, c2, c3, c4⟩, hsl, hfl, hnr⟩ := HC.out i s hsi
          obtain rfl : a0 = ⟨b, off, none⟩ := Option.some.inj e
          have HSI : Hid (ss[i]? = some s) := hsi
          have HN : Hid (NRL w s.nr s.es) := hnr
          obtain ⟨np, ncap, hnv, hnl, hnm, hnn, NC⟩ := hnr.opened
          obtain ⟨fp, fcap, hfv, _, _, _, _⟩ := hfl.opened
          have HNV : Hid (s.nr = .slice np s.es.length ncap) := hnv
          have HFV : Hid (s.fol = .slice fp s.fs.length fcap) := hfv
          rw [hnv] at c4
          rw [hfv] at c3
          have hel : s.es.length ≤ 1048576 := HE.out s (List.mem_of_getElem? hsi)
          have hbN : b < w.heap.size := cell_lt c0
          have hbelow := HP.out.1
          replace c0 := cell_later hbelow c0
          replace c1 := cell_later hbelow c1
          replace c2 := cell_later hbelow c2
          replace c3 := cell_later hbelow c3
          replace c4 := cell_later hbelow c4
          have HBW : Hid (Below w.heap.size w wr) := hbelow
          clear hbelow hnr hfl hnv hfv hsi e hsl
          unfold maxLen at hnm
          go_upto_if 31 with fail
          go_cut [11] (fun v wx => NrMade wr s v wx)
          case first =>
            by_cases hp0 : np = none
            · subst hp0
              obtain ⟨hes0, rfl⟩ := hnn rfl
              have HZ : Hid (s.es = []) := hes0
              clear hes0 hnn
              go_wp2
              go_meet
              case rel => exact ⟨Below.refl _ _, by rw [HZ.out]; exact ⟨⟨none, 0, rfl, by simp, by unfold maxLen; omega, fun _ => ⟨rfl, rfl⟩, fun h => by simp at h⟩, fun x hx => by simp at hx⟩, by rw [HNV.out, HZ.out]; simp, fun p n c h => by simp at h⟩
            · obtain ⟨na0, rfl⟩ := Option.ne_none_iff_exists'.mp hp0
              obtain ⟨ns, hns, hmk⟩ := make58 s.es.length hel
              have HF : Hid (Below wr.heap.size wr (wr.alloc (.cells ns 49 (0, 0))) ∧ Filling 2 wr.heap.size s.es.length [] (wr.alloc (.cells ns 49 (0, 0)))) := ⟨(Below.refl _ _).alloc (Nat.le_refl _) _, Filling.start hns⟩
              clear hnn hp0
              simp only [Option.isSome_some]
              go_wp2
              generalize hW1 : wr.alloc _ = w1 at *
              clear hmk hW1
              generalize hg : wr.heap.size = g at *
              obtain ⟨wo, rfl⟩ : ∃ wo, wo = wr := ⟨_, rfl⟩
              go_loopw [12] (fun jv wx => ∃ (j : Nat), j ≤ s.es.length ∧ jv = .int .i64 j ∧ Below g wo wx ∧ Filling 2 g s.es.length ((nrRows s.es).take j) wx) (fun jv _ => s.es.length - (intOf jv).toNat)
              case atStart => exact ⟨0, by omega, rfl, HF.out.1, by simpa using HF.out.2⟩
              case round =>
                obtain ⟨j, hj, rfl, hb, hf⟩ := hrel
                have hgN : w.heap.size ≤ g := by rw [← hg]; exact HBW.out.size
                have hbx : Below w.heap.size w wr := HBW.out.trans (hb.mono hgN)
                have HF2 : Hid (Below g wo wr ∧ Filling 2 g s.es.length ((nrRows s.es).take j) wr) := ⟨hb, hf⟩
                have x4 : wr.cell? ⟨b, off + i * 5 + 4, none⟩ = some (.slice (some na0) s.es.length ncap) := by rw [hb.cell (by show b < g; omega)]; exact c4
                by_cases hjt : j < s.es.length
                · obtain ⟨xa, xs, hx⟩ := get_nr hjt
                  obtain ⟨nb, noff, e, d1, d2, _⟩ := NC.out j _ hx
                  obtain rfl : na0 = ⟨nb, noff, none⟩ := Option.some.inj e
                  have HXJ : Hid (s.es[j]? = some (xa, xs)) := hx
                  have hnbN : nb < w.heap.size := cell_lt d1
                  replace d1 := cell_later hbx d1
                  replace d2 := cell_later hbx d2
                  dsimp only at d1 d2
                  obtain ⟨g0, f0⟩ := hf.there (j * 2) (by omega)
                  obtain ⟨g1, f1⟩ := hf.there (j * 2 + 1) (by omega)
                  obtain ⟨v0, g0⟩ := Option.isSome_iff_exists.mp g0
                  obtain ⟨v1, g1⟩ := Option.isSome_iff_exists.mp g1
                  have hne1 : g ≠ b := by omega
                  have hne2 : g ≠ nb := by omega
                  clear hb hf e hx hbx
                  go_wp2_with fail
                  go_region_held3 (fun w' => w'.cell? ⟨b, off + i * 5 + 4, none⟩ = some (.slice (some ⟨nb, noff, none⟩) s.es.length ncap) ∧ w'.cell? ⟨nb, noff + j * 2, none⟩ = some (.string xa) ∧ w'.cell? ⟨nb, noff + j * 2 + 1, none⟩ = some (.int .u64 xs))
                    (go_keep) (fail)
                  go_wp2_with fail
                  go_roundw
                  case rel =>
                    have hlen : ((nrRows s.es).take j).length = j := by rw [List.length_take, nrRows_length]; omega
                    have hnext := HF2.out.2.next (r := [.string xa, .int .u64 xs]) (by omega) rfl (w' := (wr.setCell ⟨g, j * 2, none⟩ (.string xa)).setCell ⟨g, j * 2 + 1, none⟩ (.int .u64 xs)) (by rw [hlen]; rfl)
                    refine ⟨j + 1, by omega, by go_num, ((HF2.out.1.setCell (p := ⟨g, j * 2, none⟩) (Nat.le_refl _) _).setCell (p := ⟨g, j * 2 + 1, none⟩) (Nat.le_refl _) _).drew, ?_⟩
                    rw [List.take_add_one, show (nrRows s.es)[j]? = some [.string xa, .int .u64 xs] by unfold nrRows; rw [List.getElem?_map, HXJ.out]; rfl]
                    exact hnext.later (Below.refl _ _).drew
                  case measure => simp [intOf]; omega
                · obtain rfl : j = s.es.length := by omega
                  go_wp2
                  go_meet
                  case rel =>
                    have hfull := HF2.out.2
                    rw [List.take_of_length_le (by rw [nrRows_length]; omega)] at hfull
                    exact ⟨by rw [hg]; exact HF2.out.1, ⟨hfull.full (nrRows_length _) (by unfold maxLen; omega), HN.out.2⟩, by rw [HNV.out]; simp, fun p n c h => by injection h with h1; injection h1 with h1; rw [← h1, hg]; exact Nat.le_refl _⟩
          case rest =>
            obtain ⟨hbc, hnc, hnil, hap⟩ := hcut
            have hbx : Below w.heap.size w wc := HBW.out.trans (hbc.mono HBW.out.size)
            have HNM : Hid (NrMade wr s u11 wc) := ⟨hbc, hnc, hnil, hap⟩
            obtain ⟨hb, hsbn, done, hdl, hcop, hfill, hnrs⟩ := HP.out
            have hfill2 := hfill.later hbc
            have HD : Hid (done.length = i ∧ (∀ (k : Nat) s s', ss[k]? = some s → done[k]? = some s' → Copied s s') ∧ Filling 5 sb ss.length (done.map SlotD.row) wc ∧ ∀ s' ∈ done, NRL wc s'.nr s'.es ∧ Apart s'.nr sb) := ⟨hdl, hcop, hfill2, fun s' h => ⟨(hnrs s' h).1.later hbc, (hnrs s' h).2⟩⟩
            obtain ⟨vp, vcap, rfl, _⟩ := hnc.opened
            obtain ⟨g0, f0⟩ := hfill2.there (i * 5) (by omega)
            obtain ⟨g1, f1⟩ := hfill2.there (i * 5 + 1) (by omega)
            obtain ⟨g2, f2⟩ := hfill2.there (i * 5 + 2) (by omega)
            obtain ⟨g3, f3⟩ := hfill2.there (i * 5 + 3) (by omega)
            obtain ⟨g4, f4⟩ := hfill2.there (i * 5 + 4) (by omega)
            obtain ⟨v0, g0⟩ := Option.isSome_iff_exists.mp g0
            obtain ⟨v1, g1⟩ := Option.isSome_iff_exists.mp g1
            obtain ⟨v2, g2⟩ := Option.isSome_iff_exists.mp g2
            obtain ⟨v3, g3⟩ := Option.isSome_iff_exists.mp g3
            obtain ⟨v4, g4⟩ := Option.isSome_iff_exists.mp g4
            replace c0 := cell_later hbc c0
            replace c1 := cell_later hbc c1
            replace c2 := cell_later hbc c2
            replace c3 := cell_later hbc c3
            have hne : sb ≠ b := by omega
            have HSL : Hid (sb < wr.heap.size) := some_lt (hfill.there (i * 5) (by omega)).1
            have HBX : Hid (Below w.heap.size w wc) := hbx
            have HSB : Hid (w.heap.size ≤ sb) := hsbn
            clear hbc hnc hnil hap hb hdl hcop hfill hnrs hfill2 hbx c4
            go_wp2_with fail
            go_region_held3 (fun w' => w'.cell? ⟨b, off + i * 5, none⟩ = some (.int .i64 s.id) ∧ w'.cell? ⟨b, off + i * 5 + 1, none⟩ = some (.string s.leader) ∧ w'.cell? ⟨b, off + i * 5 + 2, none⟩ = some (.int .u64 s.lepoch) ∧ w'.cell? ⟨b, off + i * 5 + 3, none⟩ = some (.slice fp s.fs.length fcap))
              (go_keep) (fail)
            go_wp2_with fail
            have hnx := Part.next hlt HSI.out HBX.out HSB.out HSL.out HD.out HNM.out
            rw [HFV.out] at hnx
            exact ⟨⟨i + 1, by omega, by go_num, hnx⟩, by simp [intOf]; omega⟩
        · obtain rfl : i = ss.length := by omega
          go_wp2
          go_meet
          case rel =>
            obtain ⟨hb, hsbn, done, hdl, hcop, hfill, hnrs⟩ := HP.out
            refine ⟨hb, done, ⟨?_, fun s' hs' => ?_⟩, hdl, hcop⟩
            · exact hfill.full (by rw [List.length_map]; exact hdl) (by unfold maxLen; omega)
            · obtain ⟨k, hk⟩ := List.mem_iff_getElem?.mp hs'
              have hkl := (List.getElem?_eq_some_iff.mp hk).1
              obtain ⟨s, hs⟩ : ∃ s, ss[k]? = some s := ⟨_, List.getElem?_eq_getElem (by omega)⟩
              have hc := hcop k s s' hs hk
              have hold := (HS.out.2 s (List.mem_of_getElem? hs))
              exact ⟨by rw [hc.leader]; exact hold.1, by rw [hc.fol, hc.fs]; exact hold.2.1.later hb, (hnrs s' hs').1⟩
  case rest =>
    have HM : Hid (SlotsMade w ss u9 wc) := hcut
    have hbw := hcut.1
    clear hcut HC HS HE hpn
    go_upto_if 97 with fail
    obtain ⟨wo, rfl⟩ : ∃ wo, wo = wc := ⟨_, rfl⟩
    go_cut [13] (fun v wx => AddrsMade wo adl (.slice pa adl.length capa) v wx)
    case first =>
      by_cases hp0 : pa = none
      · subst hp0
        obtain ⟨rfl, rfl⟩ := hpa rfl
        go_wp2
        go_meet
        case rel => exact ⟨Below.refl _ _, ⟨⟨none, 0, rfl, by simp, by unfold maxLen; omega, fun _ => ⟨rfl, rfl⟩, fun h => by simp at h⟩, fun x hx => by simp at hx⟩, by simp⟩
      · obtain ⟨a0, rfl⟩ := Option.ne_none_iff_exists'.mp hp0
        obtain ⟨ns, hns, hmk⟩ := make31 adl.length hna
        have HF : Hid (Below wo.heap.size wo (wo.alloc (.cells ns 36 (0, 0))) ∧ Filling 2 wo.heap.size adl.length [] (wo.alloc (.cells ns 36 (0, 0)))) := ⟨(Below.refl _ _).alloc (Nat.le_refl _) _, Filling.start hns⟩
        clear hpa hp0
        simp only [Option.isSome_some]
        go_wp2
        generalize hW1 : wo.alloc _ = w1 at *
        clear hmk hW1
        have hgN : w.heap.size ≤ wo.heap.size := hbw.size
        have HBW : Hid (Below w.heap.size w wo) := hbw
        clear hbw
        generalize hg : wo.heap.size = g at *
        go_loopw [14] (fun jv wx => ∃ (j : Nat), j ≤ adl.length ∧ jv = .int .i64 j ∧ Below g wo wx ∧ Filling 2 g adl.length ((adRows adl).take j) wx) (fun jv _ => adl.length - (intOf jv).toNat)
        case atStart => exact ⟨0, by omega, rfl, HF.out.1, by simpa using HF.out.2⟩
        case round =>
          obtain ⟨j, hj, rfl, hb, hf⟩ := hrel
          have hbx : Below w.heap.size w wr := HBW.out.trans (hb.mono hgN)
          have HF2 : Hid (Below g wo wr ∧ Filling 2 g adl.length ((adRows adl).take j) wr) := ⟨hb, hf⟩
          by_cases hjt : j < adl.length
          · obtain ⟨⟨xa, xs⟩, hx⟩ : ∃ x, adl[j]? = some x := ⟨_, List.getElem?_eq_getElem hjt⟩
            obtain ⟨nb, noff, e, d1, d2, _⟩ := AC.out j _ hx
            obtain rfl : a0 = ⟨nb, noff, none⟩ := Option.some.inj e
            have HXJ : Hid (adl[j]? = some (xa, xs)) := hx
            have hnbN : nb < w.heap.size := cell_lt d1
            replace d1 := cell_later hbx d1
            replace d2 := cell_later hbx d2
            dsimp only at d1 d2
            obtain ⟨g0, f0⟩ := hf.there (j * 2) (by omega)
            obtain ⟨g1, f1⟩ := hf.there (j * 2 + 1) (by omega)
            obtain ⟨v0, g0⟩ := Option.isSome_iff_exists.mp g0
            obtain ⟨v1, g1⟩ := Option.isSome_iff_exists.mp g1
            have hne2 : g ≠ nb := by omega
            clear hb hf e hx hbx
            go_wp2_with fail
            go_region_held3 (fun w' => w'.cell? ⟨nb, noff + j * 2, none⟩ = some (.string xa) ∧ w'.cell? ⟨nb, noff + j * 2 + 1, none⟩ = some (.string xs))
              (go_keep) (fail)
            go_wp2_with fail
            go_roundw
            case rel =>
              have hlen : ((adRows adl).take j).length = j := by rw [List.length_take, adRows_length]; omega
              have hnext := HF2.out.2.next (r := [.string xa, .string xs]) (by omega) rfl (w' := (wr.setCell ⟨g, j * 2, none⟩ (.string xa)).setCell ⟨g, j * 2 + 1, none⟩ (.string xs)) (by rw [hlen]; rfl)
              refine ⟨j + 1, by omega, by go_num, ((HF2.out.1.setCell (p := ⟨g, j * 2, none⟩) (Nat.le_refl _) _).setCell (p := ⟨g, j * 2 + 1, none⟩) (Nat.le_refl _) _).drew, ?_⟩
              rw [List.take_add_one, show (adRows adl)[j]? = some [.string xa, .string xs] by unfold adRows; rw [List.getElem?_map, HXJ.out]; rfl]
              exact hnext.later (Below.refl _ _).drew
            case measure => simp [intOf]; omega
          · obtain rfl : j = adl.length := by omega
            go_wp2
            go_meet
            case rel =>
              have hfull := HF2.out.2
              rw [List.take_of_length_le (by rw [adRows_length]; omega)] at hfull
              exact ⟨by rw [hg]; exact HF2.out.1, ⟨hfull.full (adRows_length _) (by unfold maxLen; omega), HAL.out.2⟩, by simp⟩
    case rest =>
      have HMA : Hid (AddrsMade wo adl (.slice pa adl.length capa) u13 wc) := hcut
      clear hcut hbw
      obtain ⟨ap', acap', hav', _⟩ := HMA.out.2.1.opened
      obtain ⟨_, ss', hsl, hcop⟩ := HM.out
      obtain ⟨sp', scap', hsv', _⟩ := hsl.opened
      have HSS : Hid (SLs wo u9 ss' ∧ Copies ss ss') := ⟨hsl, hcop⟩
      clear hsl hcop
      subst hav' hsv'
      go_wp2
      go_ret
      have hal : ∀ o, Below wc.heap.size wc (wc.alloc o) := fun o => (Below.refl _ _).alloc (Nat.le_refl _) o
      have hwo := HM.out.1
      have hoc := HMA.out.1
      have hwc := hwo.trans (hoc.mono hwo.size)
      exact ⟨wc.heap.size, _, _, ss', rfl, hwc.alloc hwc.size _, hwc.size, ⟨_, 56, heap_new _ _⟩, by simp, by simp, by simp, by simp, (HSS.out.1.later hoc).later (hal _), HSS.out.2, HMA.out.2.1.later (hal _), HMA.out.2.2⟩

end Go.Proofs.Qxb6609165a
