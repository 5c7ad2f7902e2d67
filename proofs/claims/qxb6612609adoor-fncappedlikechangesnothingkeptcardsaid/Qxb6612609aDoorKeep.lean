/-
  keep: the bytes of p behind what the pieces hold.
-/
import Derived.Test.Qxb6612609aDoorKeepParts
import Derived.Deep.QuietTactic
import Derived.BigQuiet
import Derived.Deep.RegionHeld3
import Derived.Deep.RegionLaw
import Derived.Deep.LoopGhost
import Derived.Deep.DeepCutAuto
namespace Go.Proofs.Qxb6612609aDoor
open Go.RowKit

set_option maxRecDepth 100000 in
set_option maxHeartbeats 8000000 in
theorem keep_any (B0 B : Nat) (F Fp : Nat → Prop) (limit : Int) (ps : List Pc) (over : Bool) (pv : Value) (p : List UInt8) (w : World)
    (hc : CapP w B0 F B limit ps over) (hp : Held w Fp pv p) (hFp : ∀ b, Fp b → b < w.heap.size ∧ ¬ F b)
    (hfit : ((cont ps).length : Int) + (p.length : Int) ≤ limit) (hlim : limit ≤ 9223372036854775807) (hsm : (cont ps).length + p.length ≤ 4194304) (hB0 : B0 ≤ w.heap.size) :
    Calls Tryd.prog 16 #[.pointer (some ⟨B, 0, none⟩), pv] w fun e w' => ∃ ps', e = .returned (.tuple #[]) ∧ CapP w' B0 (Fr F w w') B limit ps' over ∧ cont ps' = cont ps ++ p ∧ Only F w w' := by
  obtain ⟨i27, hi27, hz27, hs27, hb27⟩ := info_parts info27
  obtain ⟨i5, hi5, hz5, hs5, hb5⟩ := info_parts info5
  obtain ⟨pp, cp, rfl, hl, hm, _, hpd⟩ := hp
  unfold maxLen at hm
  have hpd : Lies p pp F w := fun h => by obtain ⟨b, off, h1, h2, h3⟩ := hpd h; exact ⟨b, off, h1, hFp b h2, h3⟩
  clear hFp
  have hFB : F B := hc.inF
  have hgeB : B0 ≤ B := hc.ge
  go_enter Tryd.func16, Tryd.ntmps16
  go_wp2
  go_loopg [1] p.length (fun gk v wr => ∃ (pj : Option Addr) (cj j : Nat) (ps' : List Pc), j + gk = p.length ∧ v = .slice pj gk cj ∧ gk ≤ cj ∧ cj ≤ 9223372036854775807 ∧ (0 < gk → ∃ b off, pj = some ⟨b, off + j, none⟩ ∧ pp = some ⟨b, off, none⟩) ∧
    KR B0 B F limit ps over p w j ps' wr)
  case atStart =>
    refine ⟨pp, cp, 0, ps, by omega, rfl, hl, by omega, fun h => ?_, ?_⟩
    · obtain ⟨b, off, e, _⟩ := hpd h
      exact ⟨b, off, e, e⟩
    · exact ⟨hc.kept (fun _ _ => rfl) (fun k hk => .inl hk), by simp, Only.refl _ _⟩
  case round =>
    obtain ⟨pj, cj, j, ps', hj, rfl, hgc, hcj, haddr, hkr⟩ := hrel
    have HJ : Hid (j + gk = p.length) := hj
    clear hj hc
    by_cases hpos : 0 < gk
    · obtain ⟨pb, po, rfl, hpp⟩ := haddr hpos
      have HPP : Hid (pp = some ⟨pb, po, none⟩) := hpp
      clear haddr hpp
      obtain ⟨s, hs⟩ : ∃ s, (cont ps').length = s := ⟨_, rfl⟩
      have hs' : s = (cont ps).length + j := by
        have hjj := HJ.out
        rw [← hs, hkr.cont, List.length_append, List.length_take]; omega
      have hsl : s + gk ≤ 4194304 := by have := HJ.out; omega
      have hsl2 : (s : Int) + (gk : Int) ≤ limit := by have := HJ.out; omega
      have HS : Hid ((cont ps').length = s) := hs
      have hfew : ps'.length ≤ s + 1 := by have := hkr.cap.few; omega
      clear hs hs'
      have HC : Hid (cont ps' = cont ps ++ p.take j) := hkr.cont
      have HKR : Hid (KR B0 B F limit ps over p w j ps' wr) := hkr
      clear hkr
      obtain ⟨pvv, hblk, hP⟩ := HKR.out.cap.blk
      rw [HS.out] at hblk
      have c3 : wr.cell? ⟨B, 3, none⟩ = some pvv := by rw [cell_of_row _ _ _ _ _ _ hblk]; rfl
      clear hblk
      obtain ⟨ao, capp, rfl⟩ := owns_slice hP.row
      go_wp2_with fail
      go_cut [37] (fun tv wx => tv = .bool (toFill ps') ∧ KR B0 B F limit ps over p w j ps' wx)
      case first =>
        rcases List.eq_nil_or_concat ps' with hnil | ⟨init, q, hcc⟩
        · subst hnil
          go_quiet (fail)
          go_wp2_with fail
          go_meet
          case rel => exact ⟨by simp [toFill], HKR.out.drewN _⟩
        · rw [List.concat_eq_append] at hcc
          subst hcc
          obtain ⟨gp, hao, hrow⟩ := last_at hP
          subst hao
          have hnm : (init ++ [q]).length ≤ 5000000 := by omega
          have hnm1 : (init ++ [q]).length = init.length + 1 := by simp
          have hn0 : (((init ++ [q]).length : Int) == 0) = false := by simp; omega
          have hi0 : (0 : Int) ≤ (init.length : Int) := by omega
          have hi1 : (init.length : Int) < ((init ++ [q]).length : Int) := by omega
          have hwn : IntKind.i64.wrap (((init ++ [q]).length : Int) - 1) = (init.length : Int) := by rw [IntKind.wrap_i64]; omega
          have HT : Hid (toFill (init ++ [q]) = (q.l.length == q.c)) := by simp [toFill, Hid]
          clear hnm1 hP
          have HKR' := HKR
          clear HKR
          generalize (init ++ [q]).length = n at *
          generalize init.length = m at *
          by_cases hfull : q.l.length = q.c
          · have hb : ((q.l.length : Int) == (q.c : Int)) = true := by simp [hfull]
            go_quiet (fail)
            go_wp2_with fail
            go_meet
            case rel => exact ⟨by rw [HT.out]; simp [hfull], HKR'.out.drewN _⟩
          · have hb : ((q.l.length : Int) == (q.c : Int)) = false := by simp; omega
            go_quiet (fail)
            go_wp2_with fail
            go_meet
            case rel => exact ⟨by rw [HT.out]; simp [hfull], HKR'.out.drewN _⟩
      case rest =>
        clear HKR hP c3 ao capp
        obtain ⟨rfl, hkr⟩ := hcut
        obtain ⟨wr, hwr⟩ : ∃ wr, wr = wc := ⟨_, rfl⟩
        subst hwr
        have HKR : Hid (KR B0 B F limit ps over p w j ps' wr) := hkr
        obtain ⟨pvv, hblk, hP⟩ := hkr.cap.blk
        rw [HS.out] at hblk
        clear hkr
        have c0 : wr.cell? ⟨B, 0, none⟩ = some (.int .i64 limit) := by rw [cell_of_row _ _ _ _ _ _ hblk]; rfl
        have c3 : wr.cell? ⟨B, 3, none⟩ = some pvv := by rw [cell_of_row _ _ _ _ _ _ hblk]; rfl
        have c4 : wr.cell? ⟨B, 4, none⟩ = some (.int .i64 s) := by rw [cell_of_row _ _ _ _ _ _ hblk]; rfl
        have f3 : wr.frozen? ⟨B, 3, none⟩ = false := frozen_of_row _ _ _ _ _ hblk
        obtain ⟨ao, capp, rfl⟩ := owns_slice hP.row
        have HBLK : Hid (wr.heap[B]? = some (.cells #[.int .i64 limit, .nilFunc, .slice none 0 0, .slice ao ps'.length capp, .int .i64 (s : Int), .bool over] 37 (0, 0))) := hblk
        have HP : Hid (Pieces wr B0 (Fr F w wr) (Value.slice ao ps'.length capp) ps') := hP
        have hBr : B0 ≤ wr.heap.size := by have := HKR.out.only.size; omega
        clear hblk hP
        go_upto_if 37 with fail
        go_cut [4] (fun nv wx => ∃ init q gp capp, nv = .int .i64 ((init.length : Int) + 1) ∧ Mid B0 B F limit ps' over w s init q gp capp wx)
        case first =>
          cases hfill : toFill ps'
          · have HM : Hid (∃ init q gp capp, (ps'.length : Int) = (init.length : Int) + 1 ∧ Mid B0 B F limit ps' over w s init q gp capp wr) := by
              rcases List.eq_nil_or_concat ps' with hnil | ⟨init, q, hcc⟩
              · subst hnil; simp [toFill] at hfill
              · rw [List.concat_eq_append] at hcc
                obtain ⟨gp, hao, _⟩ := last_at (hcc ▸ HP.out)
                have hblk := HBLK.out
                have hP := HP.out
                subst hao
                rw [hcc] at hblk hP hfill
                simp only [List.length_append, List.length_singleton] at hblk hP
                refine ⟨init, q, gp, capp, by rw [hcc]; simp, hblk, hP, ?_, by rw [hcc], HKR.out.only, ?_, hFB⟩
                · obtain ⟨_, ho⟩ := hP.each q (by simp)
                  have := ho.2
                  simp [toFill] at hfill
                  rcases this with ⟨h, _⟩ | ⟨g, cap, cur, h, _, _, h1, _⟩
                  · cases h
                  · simp only [Pc.val, Value.slice.injEq] at h
                    omega
                · rw [hcc] at hfew; simp at hfew; omega
            clear hfill
            go_wp2_with fail
            go_meet
            case rel =>
              obtain ⟨init, q, gp, capp, e, hM⟩ := HM.out
              exact ⟨init, q, gp, capp, by rw [e], hM⟩
          · have hne : (Value.slice ao ps'.length capp).ownBlock ≠ some B := ne_B HP.out.row HBLK.out (by decide)
            have lB : B < wr.heap.size := lt_of_heap HBLK.out
            have e1 : (s : Int) ≤ 4194304 := by omega
            have e2 : (0 : Int) < limit - (s : Int) := by omega
            clear hfill
            go_wp2_with fail
            have hsub : IntKind.i64.wrap (limit - (s : Int)) = limit - (s : Int) := by rw [IntKind.wrap_i64]; omega
            obtain ⟨cN, hcN, hcN0, hcN1⟩ : ∃ cN : Nat, (if limit - (s : Int) < 65536 then limit - (s : Int) else 65536) = (cN : Int) ∧ 0 < cN ∧ cN ≤ 65536 := by
              refine ⟨(if limit - (s : Int) < 65536 then limit - (s : Int) else 65536).toNat, ?_, ?_, ?_⟩ <;> split <;> omega
            have hmk : ∀ W : World, (Instr.makeSlice 27 (.int .i64 0) (.int .i64 (cN : Int))).run Tryd.prog W = .ok (.slice (some ⟨W.heap.size, 0, none⟩) 0 cN) (W.alloc (.cells (zeroes cN) 5)) := fun W => make_bytes cN W (by omega)
            have hlen : ps'.length ≤ 5000000 := by omega
            have HOWN : Hid (wr.ownsRow B0 27 1 (.slice ao ps'.length capp) ps'.length (ps'.map Pc.val)) := HP.out.row
            have cA : ∀ o, (wr.alloc o).cell? ⟨B, 3, none⟩ = some (.slice ao ps'.length capp) := fun o => cell1 c3 o
            have cB : ∀ o1 o2, ((wr.alloc o1).alloc o2).cell? ⟨B, 3, none⟩ = some (.slice ao ps'.length capp) := fun o1 o2 => cell2 c3 o1 o2
            go_region_law
              ((refine step_append_lies _ (by rfl) _ _ _ (by rfl) B0 27 i27 _ 1 24 Tryd.underlying22 hi27 hz27 hs27 hb27 rfl (by omega) (.slice ao ps'.length capp) ps'.length (ps'.map Pc.val) (by rfl) (((HOWN.out.alloc _).alloc _).drew)
                  ⟨wr.heap.size + 1, 0, none⟩ 1 1 [.slice (some ⟨wr.heap.size, 0, none⟩) 0 cN] (by rfl) (by rfl) (World.news_of_block (cs := #[.slice (some ⟨wr.heap.size, 0, none⟩) 0 cN]) (t := 27) (fr := (0, 0)) (heap_alloc_new2 wr _ _)) (by simp [Value.oneCell'])
                  (by omega) (by unfold maxLen; omega) (by omega) (by simp; omega) (wr.heap.size + 2) (by simp) ?_; intro gg cap w1 hown1 hgrow hat hlt; have hfz1 : w1.frozen? ⟨B, 3, none⟩ = false := (hgrow.frozen_far ⟨B, 3, none⟩ (by simp; omega) (Ne.symm hne)).trans (froz2 lB f3 _ _); have hc1 : w1.cell? ⟨B, 3, none⟩ = some (.slice ao ps'.length capp) := (hgrow.cell_far ⟨B, 3, none⟩ (by simp; omega) (Ne.symm hne)).trans (cell2 c3 _ _)))
            all_goals
              go_wp2_with fail
              go_meet
              case rel => exact ⟨ps', _, gg, cap, rfl, mid_of_more (wA := ((wr.alloc (.cells (zeroes cN) 5)).alloc (.cells #[.slice (some ⟨wr.heap.size, 0, none⟩) 0 cN] 27)).drew) (o2 := .cells #[.slice (some ⟨wr.heap.size, 0, none⟩) 0 cN] 27) HKR.out HBLK.out HP.out HS.out hFB hBr hcN0 hcN1 rfl rfl rfl rfl hgrow hown1 hat hlt⟩
        case rest =>
          clear HKR HBLK HP c0 c3 c4 f3
          obtain ⟨init, q, gp, capq, rfl, hmid⟩ := hcut
          have d3 : wc.cell? ⟨B, 3, none⟩ = some (.slice (some ⟨gp, 0, none⟩) (init.length + 1) capq) := by rw [cell_of_row _ _ _ _ _ _ hmid.blk]; rfl
          have d4 : wc.cell? ⟨B, 4, none⟩ = some (.int .i64 s) := by rw [cell_of_row _ _ _ _ _ _ hmid.blk]; rfl
          have g4 : wc.frozen? ⟨B, 4, none⟩ = false := frozen_of_row _ _ _ _ _ hmid.blk
          obtain ⟨gp', hgp', hlast⟩ := last_at hmid.pieces
          cases hgp'
          have hfrl : wc.frozen? ⟨gp, init.length, none⟩ = false := last_frozen hmid.pieces init.length
          have hroom := hmid.room
          have HOQ : Hid (wc.ownsRow B0 5 1 (.slice (some ⟨q.b, 0, none⟩) q.l.length q.c) q.l.length (bytesV q.l)) := (hmid.pieces.each q (by simp)).2
          have hcq : q.c ≤ 9223372036854775807 := owns_cap HOQ.out
          have hil : init.length ≤ 4194305 := by have := hmid.few; omega
          have HM : Hid (Mid B0 B F limit ps' over w s init q gp capq wc) := hmid
          have hneB : (Value.slice (some ⟨q.b, 0, none⟩) q.l.length q.c).ownBlock ≠ some B := ne_B HOQ.out hmid.blk (by decide)
          have hneG : (Value.slice (some ⟨q.b, 0, none⟩) q.l.length q.c).ownBlock ≠ some gp := fun e => owns_ne HOQ.out hmid.pieces.row (by decide) e rfl rfl
          have hBG : gp ≠ B := fun e => ne_B hmid.pieces.row hmid.blk (by decide) (by rw [← e]; rfl)
          have lB : B < wc.heap.size := lt_of_heap hmid.blk
          have lG : gp < wc.heap.size := World.block_lt_of_cell? _ _ hlast
          have hBr : B0 ≤ wc.heap.size := by have := hmid.only.size; omega
          have hqsm : q.l.length ≤ 4194304 := by
            have h1 := hmid.cont
            have h2 := congrArg List.length h1
            rw [cont_append, cont_one, List.length_append, HS.out] at h2
            omega
          clear hmid
          obtain ⟨kk, hkk, hk0, hk1, hk2⟩ : ∃ kk : Nat, (if (q.c : Int) - (q.l.length : Int) < (gk : Int) then (q.c : Int) - (q.l.length : Int) else (gk : Int)) = (kk : Int) ∧ 0 < kk ∧ kk ≤ gk ∧ q.l.length + kk ≤ q.c := by
            refine ⟨(if (q.c : Int) - (q.l.length : Int) < (gk : Int) then (q.c : Int) - (q.l.length : Int) else (gk : Int)).toNat, ?_, ?_, ?_, ?_⟩ <;> split <;> omega
          have HNB : Hid ((bytesV ((p.drop j).take kk)).length = kk * 1 ∧ ∀ i u, (bytesV ((p.drop j).take kk))[i]? = some u → wc.cell? ((⟨pb, po + j, none⟩ : Addr).add i) = some u) :=
            next_bytes hpd HPP.out HM.out.only HJ.out hk1 hk0
          have e1 : (0 : Int) ≤ (kk : Int) := by omega
          have e2 : (kk : Int) ≤ (cj : Int) := by omega
          have e3 : (0 : Int) ≤ (init.length : Int) := by omega
          have e4 : (init.length : Int) < (init.length : Int) + 1 := by omega
          have hw1 : IntKind.i64.wrap (init.length : Int) = (init.length : Int) := by rw [IntKind.wrap_i64]; omega
          generalize hm : init.length = m at *
          generalize hql : q.l.length = ql at *
          generalize hqc : q.c = qc at *
          generalize hnb : bytesV ((p.drop j).take kk) = nb at *
          generalize hqb : bytesV q.l = qb at *
          have Hm : Hid (init.length = m ∧ q.l.length = ql ∧ q.c = qc ∧ bytesV ((p.drop j).take kk) = nb ∧ bytesV q.l = qb) := ⟨hm, hql, hqc, hnb, hqb⟩
          clear hm hql hqc hnb hqb
          go_wp2_with fail
          go_region_held3 (fun w' => w'.cell? ⟨B, 3, none⟩ = some (.slice (some ⟨gp, 0, none⟩) (m + 1) capq) ∧ w'.cell? ⟨B, 4, none⟩ = some (.int .i64 (s : Int)))
            (first
              | go_keep
              | (go_split_ands
                 refine ⟨?_, ?_⟩
                 · (rw [hgrow.cell_far _ (by simp; omega) (Ne.symm hneB)]; assumption)
                 · (rw [hgrow.cell_far _ (by simp; omega) (Ne.symm hneB)]; assumption))
              | (go_split_ands
                 refine ⟨?_, ?_⟩
                 · (rw [World.cell?_setCell_other _ _ _ _ (by simp; omega)]; assumption)
                 · (rw [World.cell?_setCell_other _ _ _ _ (by simp; omega)]; assumption)))
            ((refine step_append_lies _ (by rfl) _ _ _ (by rfl) B0 5 i5 _ 1 1 Tryd.underlying27 hi5 hz5 hs5 hb5 rfl (by omega) (.slice (some ⟨q.b, 0, none⟩) ql qc) ql qb (by rfl) HOQ.out.drew
                ⟨pb, po + j, none⟩ kk cj nb (by rfl) HNB.out.1 HNB.out.2 (by rw [← Hm.out.2.2.2.1]; exact bytesV_one)
                (by omega) (by unfold maxLen; omega) (by omega) (by simp; omega) wc.heap.size (by simp) ?_; intro gg cap w1 hown1 hgrow hat hlt; have hcG : w1.cell? ⟨gp, m, none⟩ = some (.slice (some ⟨q.b, 0, none⟩) ql qc) := (hgrow.cell_far ⟨gp, m, none⟩ (by simp; omega) (Ne.symm hneG)).trans hlast; have hfG : w1.frozen? ⟨gp, m, none⟩ = false := (hgrow.frozen_far ⟨gp, m, none⟩ (by simp; omega) (Ne.symm hneG)).trans hfrl; have hfB : w1.frozen? ⟨B, 4, none⟩ = false := (hgrow.frozen_far ⟨B, 4, none⟩ (by simp; omega) (Ne.symm hneB)).trans g4))
          have hgrow : wc.grownBy w1 (some q.b) := ⟨hgrow.os, hgrow.tape, hgrow.output, hgrow.size, hgrow.block⟩
          have Hat : Hid (q.b = gg ∨ gg = wc.heap.size) := by
            rcases hat with h | h
            · exact .inl (Option.some.inj h)
            · exact .inr h
          clear hat
          have HA : Hid (wc.grownBy w1 (some q.b) ∧ w1.ownsRow B0 5 1 (Value.slice (some ⟨gg, 0, none⟩) (ql + kk) cap) (ql + kk) (qb ++ nb)) := ⟨hgrow, hown1⟩
          clear hgrow hown1
          go_wp2_with fail
          all_goals
            obtain ⟨em, eql, eqc, enb, eqb⟩ := Hm.out
            have hnl : ((p.drop j).take kk).length = kk := by have h9 := HNB.out.1; rw [← enb] at h9; simpa [bytesV_length] using h9
            obtain ⟨hgrow, hown1⟩ := HA.out
            rw [← eql, ← enb, ← eqb] at hown1
            have R := step_of_mid (new := (p.drop j).take kk) HM.out HS.out hgeB (by omega) hgrow (by rw [hnl]; exact hown1) Hat.out hlt rfl
            rw [hnl, em, eql, Int.natCast_add] at R
            have hcn : cont ps' ++ (p.drop j).take kk = cont ps ++ p.take (j + kk) := by rw [HC.out, List.append_assoc, ← List.take_add]
            go_roundg (gk - kk)
            case measure => omega
            case rel => exact ⟨_, cj - kk, j + kk, _, by have := HJ.out; omega, by first | rfl | (congr 1 <;> omega), by omega, by omega, fun h => ⟨pb, po, by first | omega | rw [Nat.add_assoc], HPP.out⟩, ⟨R.1, R.2.1.trans hcn, R.2.2⟩⟩
    · have h0 : gk = 0 := by omega
      subst h0
      have hjl : j = p.length := HJ.out
      have hfin : cont ps' = cont ps ++ p := by have := hkr.cont; rwa [hjl, List.take_length] at this
      have HE : Hid (cont ps' = cont ps ++ p) := hfin
      clear hfin hjl haddr hpos HJ
      go_wp2
      go_end0
      exact ⟨ps', rfl, hkr.cap, HE.out, hkr.only⟩

end Go.Proofs.Qxb6612609aDoor
