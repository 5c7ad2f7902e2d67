/-
  FnReadiedDropsExactlyTheReadyEntries: the walk.
-/
import Derived.Test.Qxb6609165aFiltered
namespace Go.Proofs.Qxb6609165a
open Go.RowKit

/-- What stands when Readied is done. -/
structure Dropped (w W : World) (fm ep : Int) (ss : List SlotD) (adl : List (ByteArray × ByteArray)) (av : Value) (ra : List (Int × ByteArray)) (T R : Nat) (p0 p1 : Option Addr) (c0 c1 : Nat) (ap : Option Addr) (ac : Nat) (t0 t1 : List SlotD) : Prop where
  below : Below w.heap.size w W
  cop : Copies ss t0
  rel : Rel (rdOf ra) t0 t1
  r0 : W.cell? ⟨R, 0, none⟩ = some (.int .i64 fm)
  r1 : W.cell? ⟨R, 1, none⟩ = some (.int .u64 ep)
  r2 : W.cell? ⟨R, 2, none⟩ = some (.slice p1 ss.length c1)
  r3 : W.cell? ⟨R, 3, none⟩ = some (.slice ap adl.length ac)
  t2 : W.cell? ⟨T, 2, none⟩ = some (.slice p0 ss.length c0)
  addrs : AL W (.slice ap adl.length ac) adl
  nils : (Value.slice ap adl.length ac = .slice none 0 0) ↔ av = .slice none 0 0
  l0 : SLs W (.slice p0 ss.length c0) t0
  l1 : SLs W (.slice p1 ss.length c1) t1
  plain : Plainly W T
  plainR : Plainly W R
  same : R = T ↔ Quiet (rdOf ra) ss

theorem dropped_of {w w4 w5 : World} {fm ep : Int} {ss t0 t1 : List SlotD} {adl : List (ByteArray × ByteArray)} {av : Value} {ra : List (Int × ByteArray)} {T R : Nat} {ap : Option Addr} {ac : Nat} {sv0 sv1 : Value} (h4 : Below w.heap.size w w4) (h5 : Below w4.heap.size w4 w5)
    (hc : Copies ss t0) (ht : Tab w4 T fm ep ap adl.length ac sv0 t0) (hR : Tab w5 R fm ep ap adl.length ac sv1 t1) (hal : AL w4 (.slice ap adl.length ac) adl) (hn : (Value.slice ap adl.length ac = .slice none 0 0) ↔ av = .slice none 0 0)
    (hr : Rel (rdOf ra) t0 t1) (q : R = T ↔ Quiet (rdOf ra) t0) : ∃ p0 p1 c0 c1, Dropped w w5 fm ep ss adl av ra T R p0 p1 c0 c1 ap ac t0 t1 := by
  have hk := ht.later h5
  obtain ⟨p0, c0, e0, _⟩ := hk.slots.opened
  obtain ⟨p1, c1, e1, _⟩ := hR.slots.opened
  rw [hc.1] at e0
  rw [hr.1, hc.1] at e1
  exact ⟨p0, p1, c0, c1, h4.trans (h5.mono h4.size), hc, hr, hR.c0, hR.c1, by rw [← e1]; exact hR.c2, hR.c3, by rw [← e0]; exact hk.c2, hal.later h5, hn, by rw [← e0]; exact hk.slots, by rw [← e1]; exact hR.slots, hk.obj, hR.obj, q.trans (quiet_copies hc)⟩

theorem SLs.rowAt {w : World} {p : Option Addr} {n c : Nat} {l : List SlotD} (h : SLs w (.slice p n c) l) {i : Nat} {x : SlotD} (hx : l[i]? = some x) : ∃ b off, p = some ⟨b, off, none⟩ ∧ (w.cell? ⟨b, off + i * 5, none⟩ = some (.int .i64 x.id) ∧ w.cell? ⟨b, off + i * 5 + 1, none⟩ = some (.string x.leader) ∧ w.cell? ⟨b, off + i * 5 + 2, none⟩ = some (.int .u64 x.lepoch) ∧
      w.cell? ⟨b, off + i * 5 + 3, none⟩ = some x.fol ∧ w.cell? ⟨b, off + i * 5 + 4, none⟩ = some x.nr) ∧ NRL w x.nr x.es := by
  obtain ⟨p', c', e, _, _, _, HC⟩ := h.opened
  injection e with e1 e2 e3
  subst e1
  obtain ⟨b, off, hp, hc, _, _, hn⟩ := HC.out i x hx
  exact ⟨b, off, hp, hc, hn⟩

/-- Slot i of the two tables. -/
theorem Dropped.at {w W : World} {fm ep : Int} {ss t0 t1 : List SlotD} {adl : List (ByteArray × ByteArray)} {av : Value} {ra : List (Int × ByteArray)} {T R : Nat} {p0 p1 ap : Option Addr} {c0 c1 ac : Nat} (h : Dropped w W fm ep ss adl av ra T R p0 p1 c0 c1 ap ac t0 t1) {i : Nat} {s : SlotD} (hs : ss[i]? = some s) :
    ∃ b0 o0 b1 o1 n0 n1 m0 m1, p0 = some ⟨b0, o0, none⟩ ∧ p1 = some ⟨b1, o1, none⟩ ∧ W.cell? ⟨b0, o0 + i * 5 + 4, none⟩ = some (.slice n0 s.es.length m0) ∧
      (W.cell? ⟨b1, o1 + i * 5, none⟩ = some (.int .i64 s.id) ∧ W.cell? ⟨b1, o1 + i * 5 + 1, none⟩ = some (.string s.leader) ∧ W.cell? ⟨b1, o1 + i * 5 + 2, none⟩ = some (.int .u64 s.lepoch) ∧ W.cell? ⟨b1, o1 + i * 5 + 3, none⟩ = some s.fol ∧ W.cell? ⟨b1, o1 + i * 5 + 4, none⟩ = some (.slice n1 (stay (rdOf ra) i s.es).length m1)) ∧
      NRL W (.slice n0 s.es.length m0) s.es ∧ NRL W (.slice n1 (stay (rdOf ra) i s.es).length m1) (stay (rdOf ra) i s.es) ∧ ((Value.slice n0 s.es.length m0 = .slice none 0 0) ↔ s.nr = .slice none 0 0) ∧ NilFits (rdOf ra) i s.es (.slice n1 (stay (rdOf ra) i s.es).length m1) s.nr := by
  have hi := (List.getElem?_eq_some_iff.mp hs).1
  obtain ⟨x, hx⟩ : ∃ x, t0[i]? = some x := ⟨_, List.getElem?_eq_getElem (by rw [h.cop.1]; exact hi)⟩
  obtain ⟨y, hy⟩ : ∃ y, t1[i]? = some y := ⟨_, List.getElem?_eq_getElem (by rw [h.rel.1, h.cop.1]; exact hi)⟩
  have hcp := h.cop.2 i s x hs hx
  have hrl := h.rel.2 i x y hx hy
  obtain ⟨b0, o0, hp0, ⟨-, -, -, -, d0⟩, n0⟩ := h.l0.rowAt hx
  obtain ⟨b1, o1, hp1, ⟨e0, e1, e2, e3, e4⟩, n1⟩ := h.l1.rowAt hy
  have hes : y.es = stay (rdOf ra) i s.es := by rw [hrl.es, hcp.es]
  rw [hes] at n1
  rw [hcp.es] at n0
  obtain ⟨np0, m0, v0, -⟩ := n0.opened
  obtain ⟨np1, m1, v1, -⟩ := n1.opened
  have hnil := hcp.nil
  have hsame := hrl.same
  have hnils := hrl.nils
  rw [hcp.es] at hsame hnils
  rw [v1] at hsame hnils
  rw [v0] at d0 n0 hnil hsame
  rw [v1] at e4 n1
  refine ⟨b0, o0, b1, o1, np0, np1, m0, m1, hp0, hp1, d0, ⟨by rw [← hcp.id, ← hrl.id]; exact e0, by rw [← hcp.leader, ← hrl.leader]; exact e1, by rw [← hcp.lepoch, ← hrl.lepoch]; exact e2, by rw [← hcp.fol, ← hrl.fol]; exact e3, e4⟩, n0, n1, hnil, fun hq => ?_, hnils⟩
  rw [hsame hq]
  exact hnil

set_option maxRecDepth 50000 in
set_option maxHeartbeats 4000000 in
theorem drop_law (fm ep : Int) (sv av rav : Value) (ss : List SlotD) (adl : List (ByteArray × ByteArray)) (ra : List (Int × ByteArray)) (w : World) (hs : SLs w sv ss) (ha : AL w av adl) (hra : RL w rav ra) :
    Calls Try.prog 4 #[.int .i64 fm, .int .u64 ep, sv, av, rav] w (SaysTrue w) := by
  have HS : Hid (SLs w sv ss) := hs
  have HA : Hid (AL w av adl) := ha
  have HRA : Hid (RL w rav ra) := hra
  obtain ⟨p, cap, rfl, hl, hm, -, HC⟩ := hs.opened
  obtain ⟨pa, capa, rfl, -⟩ := ha.opened
  obtain ⟨pra, cra, rfl, -⟩ := hra.opened
  clear hs ha hra
  unfold maxLen at hm
  have HB2 : Hid (Below w.heap.size w (w.alloc (Obj.cells #[Value.slice pra ra.length cra] 43))) := (Below.refl _ _).alloc (Nat.le_refl _) _
  have HX : Hid ((w.alloc (Obj.cells #[Value.slice pra ra.length cra] 43)).cell? ⟨w.heap.size, 0, none⟩ = some (Value.slice pra ra.length cra)) := by show _ = _; simp
  have hcf18 : ∀ args W, (callFunc 18 args).run Try.prog W = .ok (.enter 18 args) W := enters Try.func18 (by kernel_rfl) (by kernel_rfl)
  go_enter Try.func4, Try.ntmps4
  go_wp2_with (first
    | (go_at_call 14; refine (bytesDrops_any _ _ _ _ _ ss adl ra _ (HS.out.later HB2.out) (HA.out.later HB2.out) (HRA.out.later HB2.out)).mono ?_; rintro e w' ⟨r, rfl, rfl⟩; cases r)
    | (go_at_call 7; refine (slotsBytes_any _ _ ss _ (HS.out.later HB2.out) (by omega) (by omega)).mono ?_; rintro e w' ⟨n1, o1, rfl, rfl, hn10, hn11, hP1⟩; have HP1 : Hid (o1 = false → ss.length ≤ 16384 ∧ entries ss ≤ 1048576) := hP1; clear hP1; cases o1)
    | (go_at_call 8; refine (addrsBytes_any _ _ adl _ (HA.out.later HB2.out) (by omega) (by omega)).mono ?_; rintro e w' ⟨n2, o2, rfl, rfl, hn20, hn21, hP2⟩; have HP2 : Hid (o2 = false → adl.length ≤ 32768) := hP2; clear hP2; cases o2)
    | (go_at_call 15; refine (readyBytes_any _ _ ra _ (HRA.out.later HB2.out) (by omega) (by omega)).mono ?_; rintro e w' ⟨n3, o3, rfl, rfl, hn30, hn31, -⟩; cases o3)
    | (go_at_call 16; refine (sorted_any _ ss _ (HS.out.later HB2.out) (fun s h => entries_mem (HP1.out (by trivial)).2 h)).mono ?_; rintro e w3 ⟨r, rfl, hb3, hasc⟩; have HB3 : Hid (Below w.heap.size w w3) := HB2.out.trans (hb3.mono HB2.out.size); have HX3 : Hid (w3.cell? ⟨w.heap.size, 0, none⟩ = some (Value.slice pra ra.length cra)) := cell_later hb3 HX.out; clear hb3; have HAS : Hid (r = true → ∀ s ∈ ss, Asc s.es) := hasc; clear hasc; cases r)
    | (go_at_call 9; refine (toTable_any fm ep _ _ ss adl _ (HS.out.later HB3.out) (HA.out.later HB3.out) (HP1.out (by trivial)).1 (HP2.out (by trivial)) (fun s h => entries_mem (HP1.out (by trivial)).2 h)).mono ?_; rintro e w4 ⟨T, sv0, av0, t0, rfl, hb4, -, hpl, d0, d1, d2, d3, hsl, hcop, hal, havn⟩; obtain ⟨ap, ac, rfl, -⟩ := hal.opened; have HT : Hid (Tab w4 T fm ep ap adl.length ac sv0 t0 ∧ Copies ss t0 ∧ (∀ s ∈ t0, Asc s.es ∧ s.es.length ≤ 1048576) ∧ AL w4 (.slice ap adl.length ac) adl ∧ ((Value.slice ap adl.length ac = .slice none 0 0) ↔ (Value.slice pa adl.length capa = .slice none 0 0))) := ⟨⟨hpl, d0, d1, d2, d3, hsl⟩, hcop, hcop.all (HAS.out (by trivial)) (fun s h => entries_mem (HP1.out (by trivial)).2 h), hal, havn⟩; have HB4 : Hid (Below w.heap.size w w4) := HB3.out.trans (hb4.mono HB3.out.size); have HX4 : Hid (w4.cell? ⟨w.heap.size, 0, none⟩ = some (Value.slice pra ra.length cra)) := cell_later hb4 HX3.out; clear hb4 hpl d0 d1 d2 d3 hsl hcop hal havn)
    | (go_at_call 17; refine (ready_call 18 #[.pointer (some ⟨w.heap.size, 0, none⟩)] (rdOf ra) T fm ep sv0 ap adl.length ac t0 _ HT.out.1 (fun s h => (HT.out.2.2.1 s h).1) (by rw [HT.out.2.1.1]; exact (HP1.out (by trivial)).1) (fun s h => (HT.out.2.2.1 s h).2) hcf18 (fun wr hbw i a s => ask18 i a s w.heap.size _ ra wr (cell_later hbw HX4.out) ((HRA.out.later HB4.out).later hbw))).mono ?_; rintro e w5 ⟨R, sv1, t1, rfl, hb5, htab1, hrel1, hq⟩;
       have hX5 : w5.cell? ⟨w.heap.size, 0, none⟩ = some (Value.slice pra ra.length cra) := cell_later hb5 HX4.out;
       obtain ⟨p0, p1, k0, k1, hd⟩ := dropped_of (av := Value.slice pa adl.length capa) HB4.out hb5 HT.out.2.1 HT.out.1 htab1 HT.out.2.2.2.1 HT.out.2.2.2.2 hrel1 hq; have HD : Hid (Dropped w w5 fm ep ss adl (Value.slice pa adl.length capa) ra T R p0 p1 k0 k1 ap ac t0 t1) := hd; have HX5 : Hid (w5.cell? ⟨w.heap.size, 0, none⟩ = some (Value.slice pra ra.length cra)) := hX5; clear hd hX5 hb5 htab1 hrel1 hq HT HX4 HX3 HB4 HB3))
  all_goals first | (go_ret; exact ⟨rfl, HB2.out⟩) | (go_ret; exact ⟨rfl, HB3.out⟩) | skip
  clear HX HB2 HP2 HAS hcf18 hn10 hn11 hn20 hn21 hn30 hn31
  have hsn : ss.length ≤ 16384 := (HP1.out (by trivial)).1
  have HEN : Hid (entries ss ≤ 1048576) := (HP1.out (by trivial)).2
  have HBW : Hid (Below w.heap.size w w5) := HD.out.below
  clear HP1
  go_loopw [15, 16] (fun nv iv wr => Below w5.heap.size w5 wr ∧ ∃ (i : Nat), i ≤ ss.length ∧ iv = .int .i64 i ∧ nv = .int .i64 (namedN (rdOf ra) ss i : Nat)) (fun _ iv _ => ss.length - (intOf iv).toNat)
  case atStart => exact ⟨Below.refl _ _, 0, by omega, rfl, by simp [namedN]⟩
  case round =>
    obtain ⟨hb, i, hi, rfl, rfl⟩ := hrel
    have HB : Hid (Below w5.heap.size w5 wr) := hb
    clear hb
    have hsum := left_named (rdOf ra) ss i hi
    have hle := entries_take_le ss i
    have hen1 := HEN.out
    by_cases hlt : i < ss.length
    · obtain ⟨s, hsi⟩ : ∃ s, ss[i]? = some s := ⟨_, List.getElem?_eq_getElem hlt⟩
      have hsum1 := left_named (rdOf ra) ss (i + 1) hlt
      have hle1 := entries_take_le ss (i + 1)
      have hnam := namedN_succ (rd := rdOf ra) hsi
      obtain ⟨b, off, rfl, ⟨-, -, -, -, c4⟩, -, -, hnr⟩ := HC.out i s hsi
      obtain ⟨np, ncap, hnv, hnl, hnm, -, NC⟩ := hnr.opened
      rw [hnv] at c4
      have HC4 : Hid (w.cell? ⟨b, off + i * 5 + 4, none⟩ = some (.slice np s.es.length ncap)) := c4
      have hes := entries_mem HEN.out (List.mem_of_getElem? hsi)
      clear hnr hnv hsi c4
      unfold maxLen at hnm
      generalize hnn : namedN (rdOf ra) ss i = nn at *
      generalize hnn1 : namedN (rdOf ra) ss (i + 1) = nn1 at *
      generalize leftN (rdOf ra) ss i = ln at *
      generalize leftN (rdOf ra) ss (i + 1) = ln1 at *
      generalize entries (ss.take i) = et at *
      generalize entries (ss.take (i + 1)) = et1 at *
      go_wp2
      go_loopw [15, 17] (fun nv jv wx => Below w5.heap.size w5 wx ∧ ∃ (j : Nat), j ≤ s.es.length ∧ jv = .int .i64 j ∧ nv = .int .i64 (nn + ((s.es.take j).filter fun x => rdOf ra i x.1).length : Nat)) (fun _ jv _ => s.es.length - (intOf jv).toNat)
      case atStart => exact ⟨HB.out, 0, by omega, rfl, by simp⟩
      case round =>
        clear HB
        obtain ⟨hb, j, hj, rfl, rfl⟩ := hrel
        have HB : Hid (Below w5.heap.size w5 wr) := hb
        have hbw := HBW.out.trans (hb.mono HBW.out.size)
        have c4 := cell_later hbw HC4.out
        clear hb
        have hcl := split_len (rdOf ra) i (s.es.take j)
        have htl : (s.es.take j).length = j := by rw [List.length_take]; omega
        by_cases hjt : j < s.es.length
        · obtain ⟨xa, xs, hx⟩ := get_nr hjt
          obtain ⟨nb, noff, rfl, f1, -, -⟩ := NC.out j _ hx
          have hcnt := take_filter_succ (p := fun x => rdOf ra i x.1) hx
          replace f1 := cell_later hbw f1
          dsimp only at f1
          have HCA : Hid (∀ W, Below w.heap.size w W → Calls Try.prog 19 #[.slice pra ra.length cra, .int .i64 i, .string xa] W (fun e w' => e = .returned (.bool (isReady ra i xa)) ∧ w' = W)) := fun W hW => (isReady_any _ ra _ _ _ (HRA.out.later hW)).mono fun _ _ h => ⟨h.1, h.2.symm⟩
          have hy1 := cell_later HB.out HX5.out
          have hrd : rdOf ra i xa = isReady ra i xa := rfl
          dsimp only at hcnt
          rw [hrd] at hcnt
          generalize isReady ra i xa = ya at *
          generalize ((s.es.take j).filter fun x => rdOf ra i x.1).length = cn at *
          generalize hcn1 : ((s.es.take (j + 1)).filter fun x => rdOf ra i x.1).length = cn1 at *
          clear hx hrd
          go_wp2_with fail
          go_quiet ((go_at_call 19; exact Calls.quiet_of_same (HCA.out _ (below_drewN hbw _))))
          have hbd : Below w5.heap.size w5 (wr.drewN nq) := below_drewN HB.out nq
          generalize wr.drewN nq = w8 at *
          cases ya
          · simp at hcnt
            go_wp2
            exact ⟨⟨hbd, j + 1, by omega, by go_num, by rw [hcn1, hcnt]⟩, by simp [intOf]; omega⟩
          · simp at hcnt
            go_wp2
            exact ⟨⟨hbd, j + 1, by omega, by go_num, by rw [hcn1, hcnt]; go_num⟩, by simp [intOf]; omega⟩
        · obtain rfl : j = s.es.length := by omega
          rw [List.take_length] at hcl ⊢
          go_wp2
          exact ⟨⟨HB.out, i + 1, by omega, by go_num, by rw [hnn1, hnam]⟩, by simp [intOf]; omega⟩
    · obtain rfl : i = ss.length := by omega
      have HNZ : Hid (namedN (rdOf ra) ss ss.length = 0 ↔ R = T) := named_zero.trans HD.out.same.symm
      have hpl := HD.out.plain.later HB.out
      have hplR := HD.out.plainR.later HB.out
      generalize namedN (rdOf ra) ss ss.length = nn at *
      generalize leftN (rdOf ra) ss ss.length = ln at *
      generalize entries (ss.take ss.length) = et at *
      have hbw := HBW.out.trans (HB.out.mono HBW.out.size)
      have r0 := cell_later HB.out HD.out.r0
      have r1 := cell_later HB.out HD.out.r1
      have r2 := cell_later HB.out HD.out.r2
      have r3 := cell_later HB.out HD.out.r3
      have t2 := cell_later HB.out HD.out.t2
      have HSA : Hid (Calls Try.prog 20 #[.slice ap adl.length ac, .slice pa adl.length capa] wr (Quietly wr)) := sameAddrs_any _ _ adl wr (HD.out.addrs.later HB.out) (HA.out.later hbw) HD.out.nils
      clear hsum hle hen1 HEN
      have hpe : ∃ z : Bool, (binOp .eql 29 (.pointer (some ⟨R, 0, none⟩)) (.pointer (some ⟨T, 0, none⟩))).run Try.prog wr = .ok (.bool z) wr ∧ ((nn : Int) == 0) = z := by
        by_cases hTT : R = T
        · have hn0 : nn = 0 := HNZ.out.mpr hTT
          subst hTT hn0
          exact ⟨true, ptr_same wr ⟨R, 0, none⟩, rfl⟩
        · have hn0 : nn ≠ 0 := fun e => hTT (HNZ.out.mp e)
          exact ⟨false, ptr_other wr hTT hplR hpl, by simp; omega⟩
      obtain ⟨z, hpe, hz⟩ := hpe
      clear HNZ hpl hplR
      go_wp2_with (go_at_call 20; refine HSA.out.mono ?_; rintro e w6 ⟨rfl, m6, hm6⟩; have hb6 : Below wr.heap.size wr w6 := by { rw [hm6]; exact below_drewN (Below.refl _ _) m6 }; clear hm6; have r2' := cell_later hb6 r2; have t2' := cell_later hb6 t2)
      have hb56 : Below w5.heap.size w5 w6 := HB.out.trans (hb6.mono HB.out.size)
      clear HSA hb6 r0 r1 r2 r3 t2 r2' t2' hbw HB hz hpe
      go_loopw [18] (fun iv wx => Below w5.heap.size w5 wx ∧ ∃ (i : Nat), i ≤ ss.length ∧ iv = .int .i64 i) (fun iv _ => ss.length - (intOf iv).toNat)
      case atStart => exact ⟨hb56, 0, by omega, rfl⟩
      case round =>
        obtain ⟨hb, i, hi, rfl⟩ := hrel
        have HB : Hid (Below w5.heap.size w5 wr) := hb
        clear hb hb56
        by_cases hlt : i < ss.length
        · obtain ⟨s, hsi⟩ : ∃ s, ss[i]? = some s := ⟨_, List.getElem?_eq_getElem hlt⟩
          obtain ⟨b, off, rfl, ⟨c0, c1, c2, c3, c4⟩, -, hfl, hnr⟩ := HC.out i s hsi
          obtain ⟨b0, o0, b1, o1, x0, x1, m0, m1, rfl, rfl, d4, ⟨e0, e1, e2, e3, e4⟩, hn0, hn1, hnil, hnf⟩ := HD.out.at hsi
          obtain ⟨np, ncap, hnv, -⟩ := hnr.opened
          obtain ⟨fp, fcap, hfv, -⟩ := hfl.opened
          rw [hnv] at c4 hnil hnf hnr
          rw [hfv] at c3 e3 hfl
          have HK : Hid (∀ W, Below w5.heap.size w5 W → (W.cell? ⟨R, 2, none⟩ = some (.slice (some ⟨b1, o1, none⟩) ss.length k1) ∧ W.cell? ⟨T, 2, none⟩ = some (.slice (some ⟨b0, o0, none⟩) ss.length k0) ∧ W.cell? ⟨b0, o0 + i * 5 + 4, none⟩ = some (.slice x0 s.es.length m0)) ∧
              (W.cell? ⟨b1, o1 + i * 5, none⟩ = some (.int .i64 s.id) ∧ W.cell? ⟨b1, o1 + i * 5 + 1, none⟩ = some (.string s.leader) ∧ W.cell? ⟨b1, o1 + i * 5 + 2, none⟩ = some (.int .u64 s.lepoch) ∧ W.cell? ⟨b1, o1 + i * 5 + 3, none⟩ = some (.slice fp s.fs.length fcap) ∧ W.cell? ⟨b1, o1 + i * 5 + 4, none⟩ = some (.slice x1 (stay (rdOf ra) i s.es).length m1)) ∧
              (W.cell? ⟨b, off + i * 5, none⟩ = some (.int .i64 s.id) ∧ W.cell? ⟨b, off + i * 5 + 1, none⟩ = some (.string s.leader) ∧ W.cell? ⟨b, off + i * 5 + 2, none⟩ = some (.int .u64 s.lepoch) ∧ W.cell? ⟨b, off + i * 5 + 3, none⟩ = some (.slice fp s.fs.length fcap) ∧ W.cell? ⟨b, off + i * 5 + 4, none⟩ = some (.slice np s.es.length ncap)) ∧
              W.cell? ⟨w.heap.size, 0, none⟩ = some (Value.slice pra ra.length cra)) := fun W hW => by
            have hww := HBW.out.trans (hW.mono HBW.out.size)
            exact ⟨⟨cell_later hW HD.out.r2, cell_later hW HD.out.t2, cell_later hW d4⟩, ⟨cell_later hW e0, cell_later hW e1, cell_later hW e2, cell_later hW e3, cell_later hW e4⟩, ⟨cell_later hww c0, cell_later hww c1, cell_later hww c2, cell_later hww c3, cell_later hww c4⟩, cell_later hW HX5.out⟩
          have HF : Hid (∀ W, Below w5.heap.size w5 W → Calls Try.prog 21 #[.slice fp s.fs.length fcap, .slice fp s.fs.length fcap] W (Quietly W)) := fun W hW => sameStrings_any _ s.fs W (hfl.later (HBW.out.trans (hW.mono HBW.out.size)))
          have HG : Hid (∀ W, Below w5.heap.size w5 W → Calls Try.prog 22 #[.slice x1 (stay (rdOf ra) i s.es).length m1, .slice np s.es.length ncap, .slice pra ra.length cra, .int .i64 i] W (Quietly W)) := fun W hW => filtered_any _ _ _ s.es ra i W (hn1.later hW) (hnr.later (HBW.out.trans (hW.mono HBW.out.size))) (HRA.out.later (HBW.out.trans (hW.mono HBW.out.size))) hnf
          have HH : Hid (∀ W, Below w5.heap.size w5 W → Calls Try.prog 23 #[.slice x0 s.es.length m0, .slice np s.es.length ncap] W (Quietly W)) := fun W hW => sameNotReady_any _ _ s.es W (hn0.later hW) (hnr.later (HBW.out.trans (hW.mono HBW.out.size))) hnil
          clear c0 c1 c2 c3 c4 d4 e0 e1 e2 e3 e4 hn0 hn1 hnil hnf hnr hfl hnv hfv hsi
          generalize (stay (rdOf ra) i s.es).length = sl at *
          obtain ⟨⟨y0, y1, y2⟩, ⟨z0, z1, z2, z3, z4⟩, ⟨v0, v1, v2, v3, v4⟩, v5⟩ := HK.out wr HB.out
          go_wp2_with fail
          go_quiet (fail)
          have hbd : Below w5.heap.size w5 (wr.drewN nq) := below_drewN HB.out nq
          clear y0 y1 y2 z0 z1 z2 z3 z4 v0 v1 v2 v3 v4 v5 HB
          generalize wr.drewN nq = w8 at *
          obtain ⟨⟨y0, y1, y2⟩, ⟨z0, z1, z2, z3, z4⟩, ⟨v0, v1, v2, v3, v4⟩, v5⟩ := HK.out w8 hbd
          have HB : Hid (Below w5.heap.size w5 w8) := hbd
          clear hbd
          go_wp2_with fail
          go_quiet ((go_at_call 21; exact Calls.quiet_of (HF.out _ (below_drewN HB.out _))))
          have hbd : Below w5.heap.size w5 (w8.drewN nq) := below_drewN HB.out nq
          clear y0 y1 y2 z0 z1 z2 z3 z4 v0 v1 v2 v3 v4 v5 HB
          generalize w8.drewN nq = w9 at *
          obtain ⟨⟨y0, y1, y2⟩, ⟨z0, z1, z2, z3, z4⟩, ⟨v0, v1, v2, v3, v4⟩, v5⟩ := HK.out w9 hbd
          have HB : Hid (Below w5.heap.size w5 w9) := hbd
          clear hbd
          go_wp2_with fail
          go_quiet ((go_at_call 22; exact Calls.quiet_of (HG.out _ (below_drewN HB.out _))))
          have hbd : Below w5.heap.size w5 (w9.drewN nq) := below_drewN HB.out nq
          clear y0 y1 y2 z0 z1 z2 z3 z4 v0 v1 v2 v3 v4 v5 HB
          generalize w9.drewN nq = wa at *
          obtain ⟨⟨y0, y1, y2⟩, ⟨z0, z1, z2, z3, z4⟩, ⟨v0, v1, v2, v3, v4⟩, v5⟩ := HK.out wa hbd
          have HB : Hid (Below w5.heap.size w5 wa) := hbd
          clear hbd
          go_wp2_with fail
          go_quiet ((go_at_call 23; exact Calls.quiet_of (HH.out _ (below_drewN HB.out _))))
          have hbd : Below w5.heap.size w5 (wa.drewN nq) := below_drewN HB.out nq
          clear y0 y1 y2 z0 z1 z2 z3 z4 v0 v1 v2 v3 v4 v5 HB
          generalize wa.drewN nq = wb at *
          go_wp2
          exact ⟨⟨hbd, i + 1, by omega, by go_num⟩, by simp [intOf]; omega⟩
        · obtain rfl : i = ss.length := by omega
          go_wp2
          go_ret
          exact ⟨rfl, HBW.out.trans (HB.out.mono HBW.out.size)⟩

end Go.Proofs.Qxb6609165a
