/-
  FnCappedLikeChangesNothingKept: the walk.
-/
import Derived.Test.Qxb6612609aDoorEither
namespace Go.Proofs.Qxb6612609aDoor
open Go.RowKit

/-- Two capped writers and what is wanted, apart from one another. -/
structure LT (B0 B1 B2 : Nat) (limit : Int) (w : World) (n : Nat) (c : List UInt8) (o : Bool) (cw : List UInt8) (wv : Value) (wr : World) : Prop where
  caps : ∃ F1 F2, Cap wr B0 F1 B1 limit c o ∧ Cap wr B0 F2 B2 limit c o ∧ (∀ k, F1 k → B0 ≤ k ∧ k < wr.heap.size) ∧ (∀ k, F2 k → B0 ≤ k ∧ k < wr.heap.size) ∧ (∀ k, F1 k → ¬ F2 k) ∧ ∀ g, wv.ownBlock = some g → ¬ F1 g ∧ ¬ F2 g
  want : wr.ownsRow B0 5 1 wv cw.length (bytesV cw)
  below : Below B0 w wr
  few : cw.length ≤ n

/-- Both have been written to. -/
theorem LT.both {B0 B1 B2 : Nat} {limit : Int} {w : World} {n : Nat} {c' cw : List UInt8} {o' : Bool} {wv : Value} {wr w2 w3 : World} {F1 F2 : Nat → Prop}
    (hF1 : ∀ k, F1 k → B0 ≤ k ∧ k < wr.heap.size) (hF2 : ∀ k, F2 k → B0 ≤ k ∧ k < wr.heap.size) (hap : ∀ k, F1 k → ¬ F2 k) (hg : ∀ g, wv.ownBlock = some g → ¬ F1 g ∧ ¬ F2 g)
    (hwant : wr.ownsRow B0 5 1 wv cw.length (bytesV cw)) (hbel : Below B0 w wr) (hfew : cw.length ≤ n) (hB0 : B0 ≤ wr.heap.size)
    (h1 : Cap w2 B0 (Fr F1 wr w2) B1 limit c' o') (ho1 : Only F1 wr w2) (h2 : Cap w3 B0 (Fr F2 w2 w3) B2 limit c' o') (ho2 : Only F2 w2 w3) :
    LT B0 B1 B2 limit w n c' o' cw wv w3 := by
  have s1 := ho1.size
  have s2 := ho2.size
  refine ⟨⟨Fr F1 wr w2, Fr F2 w2 w3, ?_, h2, fun k hk => ?_, fun k hk => ?_, fun k hk hk2 => ?_, fun g hg' => ⟨fun hf => ?_, fun hf => ?_⟩⟩, ?_, ?_, hfew⟩
  · refine h1.kept (fun k hk => ?_) (fun _ h => h)
    rcases hk with hk | hk
    · exact ho2.block k (by have := hF1 k hk; omega) (fun hf => hap k hk hf)
    · exact ho2.block k (by omega) (fun hf => by have := hF2 k hf; omega)
  · rcases hk with hk | hk
    · have := hF1 k hk; omega
    · omega
  · rcases hk with hk | hk
    · have := hF2 k hk; omega
    · omega
  · rcases hk with hk | hk
    · rcases hk2 with hk2 | hk2
      · exact hap k hk hk2
      · have := hF1 k hk; omega
    · rcases hk2 with hk2 | hk2
      · have := hF2 k hk2; omega
      · omega
  · rcases hf with hf | hf
    · exact (hg g hg').1 hf
    · have := (hwant.lt g hg').2; omega
  · rcases hf with hf | hf
    · exact (hg g hg').2 hf
    · have := (hwant.lt g hg').2; omega
  · refine owns_kept (owns_kept (w' := w2) hwant (fun g hg' => ho1.block g (hwant.lt g hg').2 (hg g hg').1)) (fun g hg' => ?_)
    exact ho2.block g (by have := (hwant.lt g hg').2; omega) (hg g hg').2
  · exact (hbel.trans (ho1.below (fun k hk => (hF1 k hk).1) hB0)).trans (ho2.below (fun k hk => (hF2 k hk).1) (by omega))

/-- What is wanted has grown. -/
theorem LT.more {B0 B1 B2 : Nat} {limit : Int} {w : World} {n m : Nat} {c cw l : List UInt8} {o : Bool} {wv wv' : Value} {w3 w4 : World} (h : LT B0 B1 B2 limit w n c o cw wv w3) (hB0 : B0 ≤ w3.heap.size)
    (hown : w4.ownsRow B0 5 1 wv' (cw.length + l.length) (bytesV cw ++ bytesV l)) (hgrow : w3.grownBy w4 wv.ownBlock) (hat : wv'.ownBlock = wv.ownBlock ∨ wv'.ownBlock = some w3.heap.size) (hm : n + l.length ≤ m) :
    LT B0 B1 B2 limit w m c o (cw ++ l) wv' w4 := by
  obtain ⟨F1, F2, h1, h2, hF1, hF2, hap, hg⟩ := h.caps
  have hs := hgrow.size
  have k1 : Kept F1 w3 w4 := fun k hk => hgrow.block k (hF1 k hk).2 (fun e => (hg k e.symm).1 hk)
  have k2 : Kept F2 w3 w4 := fun k hk => hgrow.block k (hF2 k hk).2 (fun e => (hg k e.symm).2 hk)
  refine ⟨⟨F1, F2, h1.kept k1 (fun _ h => h), h2.kept k2 (fun _ h => h), fun k hk => ?_, fun k hk => ?_, hap, fun g hg' => ?_⟩, ?_, ?_, ?_⟩
  · have := hF1 k hk; omega
  · have := hF2 k hk; omega
  · rcases hat with hat | hat
    · exact hg g (hat ▸ hg')
    · rw [hat] at hg'
      cases hg'
      exact ⟨fun hf => by have := hF1 _ hf; omega, fun hf => by have := hF2 _ hf; omega⟩
  · rw [List.length_append, bytesV_append]; exact hown
  · exact h.below.grown hgrow hB0 (fun k hk => (h.want.lt k hk).1)
  · rw [List.length_append]; have := h.few; omega

theorem LT.weaken {B0 B1 B2 : Nat} {limit : Int} {w : World} {n m : Nat} {c cw : List UInt8} {o : Bool} {wv : Value} {wr : World} (h : LT B0 B1 B2 limit w n c o cw wv wr) (hm : n ≤ m) : LT B0 B1 B2 limit w m c o cw wv wr :=
  ⟨h.caps, h.want, h.below, by have := h.few; omega⟩

/-- What the clone of the text is: nil, or the same bytes in a new block. -/
def Cl (l : List UInt8) (lv : Value) (w w1 : World) : Prop :=
  (lv = .slice none 0 0 ∧ w = w1) ∨ (lv = .slice (some ⟨w.heap.size, 0, none⟩) l.length l.length ∧ w1.ownsRow w.heap.size 5 1 lv l.length (bytesV l) ∧ Below w.heap.size w w1)

theorem clone_gen (F : Nat → Prop) (p : Option Addr) (c n : Nat) (l : List UInt8) (w : World) (hn : l.length = n) (hp : Held w F (.slice p n c) l) (hsm : n ≤ 1048576) :
    Calls Tryd.prog 12 #[.slice p n c] w fun e w' => ∃ lao ln lc, e = .returned (.slice lao ln lc) ∧ Cl l (.slice lao ln lc) w w' := by
  subst hn
  refine (clone_any F p c l w hp hsm).mono ?_
  rintro e w' (⟨_, rfl, rfl⟩ | ⟨_, rfl, h1, h2⟩)
  · exact ⟨_, _, _, rfl, .inl ⟨rfl, rfl⟩⟩
  · exact ⟨_, _, _, rfl, .inr ⟨rfl, h1, h2⟩⟩

/-- The start: two writers, nothing wanted yet. -/
theorem LT.start {limit : Int} {w w1 : World} {l : List UInt8} {lao : Option Addr} {ln lc : Nat} (h : Cl l (.slice lao ln lc) w w1) (hl : l.length ≤ 1048576) :
    LT w.heap.size w1.heap.size (w1.heap.size + 1) limit w 0 [] false [] (.slice none 0 0)
      ((w1.alloc (.cells #[.int .i64 limit, .nilFunc, .slice none 0 0, .slice none 0 0, .int .i64 0, .bool false] 37)).alloc (.cells #[.int .i64 limit, .nilFunc, .slice lao ln lc, .slice none 0 0, .int .i64 0, .bool false] 37)) := by
  have hs : w.heap.size ≤ w1.heap.size := by
    rcases h with ⟨_, rfl⟩ | ⟨_, _, hb⟩
    · exact Nat.le_refl _
    · exact hb.size
  have hbel : Below w.heap.size w w1 := by
    rcases h with ⟨_, rfl⟩ | ⟨_, _, hb⟩
    · exact Below.refl _ _
    · exact hb
  have e1 : ∀ o1 o2 : Obj, ((w1.alloc o1).alloc o2).heap[w1.heap.size]? = some o1 := fun o1 o2 => by
    rw [Below.heap_alloc _ _ _ (by simp)]; exact heap_alloc_new _ _
  have e2 : ∀ o1 o2 : Obj, ((w1.alloc o1).alloc o2).heap[w1.heap.size + 1]? = some o2 := fun o1 o2 => heap_alloc_new2 _ _ _
  have nilP : ∀ (W : World) (F : Nat → Prop), Pieces W w.heap.size F (.slice none 0 0) [] := fun W F => ⟨World.ownsRow_nil _ _ _ _, (fun g h => by cases h), (fun q h => by cases h), (fun init q h => by cases init <;> cases h)⟩
  refine ⟨⟨fun k => k = w1.heap.size, fun k => k = w1.heap.size + 1 ∨ (k = w.heap.size ∧ lao ≠ none), .inl ⟨[], ⟨⟨_, e1 _ _, nilP _ _⟩, rfl, hs, by simp⟩, rfl⟩, ?_, fun k hk => by simp; omega, fun k hk => ?_, fun k hk hk2 => ?_, fun g hg => by cases hg⟩, World.ownsRow_nil _ _ _ _, (hbel.alloc hs _).alloc (by simp; omega) _, by simp⟩
  · rcases h with ⟨hv, _⟩ | ⟨hv, ho, hb⟩
    · cases hv
      exact .inl ⟨[], ⟨⟨_, e2 _ _, nilP _ _⟩, .inl rfl, by omega, by simp⟩, rfl⟩
    · cases hv
      have lt := (ho.lt w.heap.size rfl).2
      refine .inr ⟨l, 0, w.heap.size, l.length, ⟨e2 _ _, owns_kept ho (fun g hg => ?_), .inl rfl, .inr ⟨rfl, by simp⟩, by omega, by simp⟩, by simp, hl⟩
      cases hg
      rw [Below.heap_alloc _ _ _ (by simp; omega), Below.heap_alloc _ _ _ lt]
  · rcases hk with hk | ⟨hk, hne⟩
    · simp; omega
    · subst hk
      simp; omega
  · rcases hk2 with hk2 | ⟨hk2, hne⟩
    · omega
    · rcases h with ⟨hv, _⟩ | ⟨hv, ho, hb⟩
      · cases hv; exact hne rfl
      · have := (ho.lt w.heap.size (by rw [hv]; rfl)).2
        omega

set_option maxRecDepth 100000 in
set_option maxHeartbeats 4000000 in
theorem law2_walk (hkeep : KeepSaid) (limit : Int) (lk : Option Addr) (ll lcp : Nat) (lik : List UInt8) (a : Option Addr) (n cc : Nat) (ls : List (List UInt8)) (w : World) (hlim : limit ≤ 9223372036854775807) (hn : ls.length = n) (mn : n ≤ maxLen) (ml : ll ≤ maxLen)
    (hll : lik.length = ll) (hlk : Held w (· < w.heap.size) (.slice lk ll lcp) lik) (hch : Chunks w w.heap.size a ls) (hnil : NilNone w a n) :
    Calls Tryd.prog 4 #[.int .i64 limit, .slice lk ll lcp, .slice a n cc] w fun e w' => e = .returned (.bool true) ∧ Below w.heap.size w w' := by
  obtain ⟨i5, hi5, hz5, hs5, hb5⟩ := info_parts info5
  go_enter Tryd.func4, Tryd.ntmps4
  go_wp2_with fail
  refine (bytesLike_any limit lk ll lcp a n cc w.heap.size ls w hn hch ml mn).mono ?_
  rintro e w' ⟨r, rfl, rfl, _⟩
  unfold maxLen at mn ml
  cases r
  · go_wp2
    go_ret
    exact ⟨rfl, Below.refl _ _⟩
  by_cases h0 : ll ≤ 1048576
  · by_cases h1 : n ≤ 65536
    · go_wp2_with fail
      refine (chunksFit_any lk ll lcp a n cc w.heap.size ls w hn hch h0 h1).mono ?_
      rintro e w' ⟨r, rfl, rfl, htot⟩
      cases r
      · go_wp2
        go_ret
        exact ⟨rfl, Below.refl _ _⟩
      have HT : Hid (total ls ≤ 1048576) := htot rfl
      clear htot
      go_wp2_with fail
      refine (clone_gen _ lk lcp ll lik w hll hlk h0).mono ?_
      rintro e w1 ⟨lao, ln, lc, rfl, hcl⟩
      have HCL : Hid (Cl lik (.slice lao ln lc) w w1) := hcl
      have HLL : Hid (lik.length = ll) := hll
      have HN : Hid (ls.length = n) := hn
      have HC : Hid (Chunks w w.heap.size a ls) := hch
      have HNN : Hid (NilNone w a n) := hnil
      clear hcl hll hn hch hnil hlk
      go_wp2_with fail
      refine (new_any limit _ w1 none 0 0 rfl).mono ?_
      rintro e w2 ⟨rfl, rfl⟩
      go_wp2_with fail
      refine (new_any limit _ _ lao ln lc rfl).mono ?_
      rintro e w3 ⟨rfl, hw3⟩
      have HI : Hid (LT w.heap.size w1.heap.size (w1.heap.size + 1) limit w 0 [] false [] (.slice none 0 0) w3) := by
        rw [← hw3]; exact LT.start HCL.out (by rw [HLL.out]; exact h0)
      clear hw3 HCL
      rw [World.size_alloc]
      generalize hB1 : w1.heap.size = B1 at *
      clear hB1
      generalize hB : w.heap.size = B at *
      have HB : Hid (w.heap.size = B) := hB
      clear hB
      go_wp2
      go_loopw [9, 10, 11, 12] (fun wv kv ov iv wr => ∃ (k : Nat) (c : List UInt8) (o : Bool), k ≤ n ∧ iv = .int .i64 k ∧ ov = .bool o ∧ kv = .int .i64 (c.length : Int) ∧ LT B B1 (B1 + 1) limit w (total (ls.take k)) c o c wv wr)
        (fun _ _ _ iv _ => n - (intOf iv).toNat)
      case atStart => exact ⟨0, [], false, by omega, rfl, rfl, rfl, HI.out⟩
      case round =>
        obtain ⟨k, c, o, hk, rfl, rfl, rfl, hlr⟩ := hrel
        by_cases hlt : k < n
        · obtain ⟨pb, po, v, l, hao, hpB, hcell0, hl, hh⟩ := HC.out k (by rw [HN.out]; exact hlt)
          subst hao
          have hcell := (hlr.below.cell (p := ⟨pb, po + k, none⟩) hpB).trans hcell0
          obtain ⟨F1, F2, hc1, hc2, hF1, hF2, hap, hg⟩ := hlr.caps
          have hB0 : B ≤ wr.heap.size := by have h1 := hlr.below.size; have h2 := HB.out; omega
          have hfew := hlr.few
          have htk := total_take_succ hl
          have htl := total_take_le ls (k + 1)
          have htt := HT.out
          have hbd : c.length + l.length ≤ 1048576 := by omega
          have hW := capWrite_either hkeep B B1 F1 (· < B) limit c o v l wr hc1 (hh.below hlr.below) (fun b hb => ⟨by omega, fun hf => by have := (hF1 b hf).1; omega⟩) hF1 hlim hbd hB0
          have hsrc := fun w' (hb : Below B w w') => hh.below hb
          obtain ⟨p, cp, rfl, _⟩ := hh
          have hcp0 : p = none → cp = 0 := fun e => by subst e; exact HNN.out k pb po _ cp hlt rfl hcell0
          have HTK : Hid (total (ls.take k) + l.length ≤ total (ls.take (k + 1))) := by unfold Hid; omega
          have HO : Hid (Cap wr B F2 (B1 + 1) limit c o ∧ (∀ k, F1 k → B ≤ k ∧ k < wr.heap.size) ∧ (∀ k, F2 k → B ≤ k ∧ k < wr.heap.size) ∧ (∀ k, F1 k → ¬ F2 k) ∧ (∀ g, u9.ownBlock = some g → ¬ F1 g ∧ ¬ F2 g)) := ⟨hc2, hF1, hF2, hap, hg⟩
          have HL : Hid (LT B B1 (B1 + 1) limit w (total (ls.take k)) c o c u9 wr) := hlr
          have HS : Hid (∀ w', Below B w w' → Held w' (· < B) (.slice p l.length cp) l) := hsrc
          clear hsrc hlr hcell0 hl hc1 hc2 hF1 hF2 hap hg hfew htk htl htt
          generalize hm : l.length = m at *
          have HM : Hid (l.length = m) := hm
          clear hm
          go_wp2_with fail
          refine hW.mono ?_
          rintro e w2 ⟨rfl, hcap1, honly1⟩
          clear hW
          have HBW : Hid (Below B w w2) := HL.out.below.trans (honly1.below (fun k hk => (HO.out.2.1 k hk).1) hB0)
          have hs1 := honly1.size
          have hW2 := capWrite_either hkeep B (B1 + 1) F2 (· < B) limit c o (.slice p m cp) l w2
            (HO.out.1.kept (fun k hk => honly1.block k (HO.out.2.2.1 k hk).2 (fun hf => HO.out.2.2.2.1 k hf hk)) (fun _ h => h)) (HS.out w2 HBW.out) (fun b hb => ⟨by omega, fun hf => by have := (HO.out.2.2.1 b hf).1; omega⟩) (fun k hk => ⟨(HO.out.2.2.1 k hk).1, by have := (HO.out.2.2.1 k hk).2; omega⟩) hlim (by rw [HM.out]; exact hbd) (by omega)
          rw [HM.out] at hW2
          have HR1 : Hid (Cap w2 B (Fr F1 wr w2) B1 limit (stepC limit c o l) (stepB limit c o l) ∧ Only F1 wr w2) := ⟨hcap1, honly1⟩
          clear hcap1 honly1
          go_wp2_with fail
          refine hW2.mono ?_
          rintro e w3 ⟨rfl, hcap2, honly2⟩
          clear hW2
          have HLT : Hid (LT B B1 (B1 + 1) limit w (total (ls.take k)) (stepC limit c o l) (stepB limit c o l) c u9 w3) :=
            LT.both HO.out.2.1 HO.out.2.2.1 HO.out.2.2.2.1 HO.out.2.2.2.2 HL.out.want HL.out.below HL.out.few hB0 HR1.out.1 HR1.out.2 hcap2 honly2
          have hB3 : B ≤ w3.heap.size := by have := honly2.size; omega
          clear hcap2 honly2 HR1 HO HL HBW hs1
          have hne : ((m : Int) != (m : Int)) = false := by simp
          by_cases hst : stepB limit c o l = true
          · have HST : Hid (stepB limit c o l = true) := hst
            have hcase : o = true ∨ o = false ∧ limit < (c.length : Int) + (m : Int) := by
              have := HM.out
              cases o
              · right; simp [stepB] at hst; exact ⟨rfl, by omega⟩
              · exact .inl rfl
            clear hst
            rcases hcase with rfl | ⟨rfl, hgt⟩
            all_goals
              go_wp2
              go_roundw
              case rel =>
                have h2 := HLT.out
                unfold stepC at h2
                rw [HST.out] at h2
                exact ⟨k + 1, c, true, by omega, by go_num, rfl, rfl, h2.weaken (by have := HTK.out; omega)⟩
              case measure => simp [intOf]; omega
          · have HST : Hid (stepB limit c o l = false) := by simpa [Hid] using hst
            have hcase : o = false ∧ (c.length : Int) + (m : Int) ≤ limit := by
              have := HM.out
              cases o
              · refine ⟨rfl, ?_⟩; simp [stepB] at hst; omega
              · simp [stepB] at hst
            clear hst
            obtain ⟨rfl, hle⟩ := hcase
            have HOW : Hid (w3.ownsRow B 5 1 u9 c.length (bytesV c)) := HLT.out.want
            rcases src_of_held (HS.out w3 HLT.out.below) HM.out with ⟨rfl, hl0⟩ | ⟨ad, rfl, hnews⟩
            · have hm0 : m = 0 := by rw [← HM.out, hl0]; rfl
              have hc0 := hcp0 rfl
              subst hm0 hc0
              have HL0 : Hid (l = []) := hl0
              clear hl0 hcp0
              go_wp2_with (at_builtin; refine wpList_append_own_none rfl _ _ 27 rfl B 5 i5 1 Tryd.underlying27 hi5 u9 c.length (bytesV c) rfl HOW.out rfl ?_)
              go_roundw
              case rel =>
                have h2 := HLT.out
                unfold stepC at h2
                rw [HST.out, HL0.out] at h2
                simp only [List.append_nil, Bool.false_eq_true, if_false] at h2
                exact ⟨k + 1, c, false, by omega, by go_num, rfl, by go_num, h2.weaken (by have := HTK.out; omega)⟩
              case measure => simp [intOf]; omega
            · have HNW : Hid (∀ j u, (bytesV l)[j]? = some u → w3.cell? (ad.add j) = some u) := hnews
              clear hnews hcp0
              go_wp2_with (at_builtin; refine wpList_append_own_at _ rfl _ _ 27 rfl B 5 i5 (.int .u8 0) 1 1 Tryd.underlying27 hi5 hz5 hs5 hb5 rfl (by decide) u9 c.length (bytesV c) rfl HOW.out ad m cp (bytesV l) rfl (by rw [bytesV_length, HM.out, Nat.mul_one]) HNW.out bytesV_one (by unfold maxLen; omega) (by omega) hB3 ?_; intro v4 w4 hown4 hgrow4 _ hat4; have H4 : Hid (w4.ownsRow B 5 1 v4 (c.length + m) (bytesV c ++ bytesV l) ∧ w3.grownBy w4 u9.ownBlock ∧ (v4.ownBlock = u9.ownBlock ∨ v4.ownBlock = some w3.heap.size)) := ⟨hown4, hgrow4, hat4⟩; clear hown4 hgrow4 hat4)
              go_roundw
              case rel =>
                have h2 := HLT.out
                obtain ⟨h8, h9, h10⟩ := H4.out
                rw [← HM.out] at h8
                have h3 := h2.more (m := total (ls.take (k + 1))) hB3 h8 h9 h10 (by have := HTK.out; rw [HM.out]; exact this)
                unfold stepC at h3
                rw [HST.out] at h3
                exact ⟨k + 1, c ++ l, false, by omega, by go_num, rfl, by rw [List.length_append, HM.out]; go_num, h3⟩
              case measure => simp [intOf]; omega
        · have hkn : k = n := by omega
          subst hkn
          obtain ⟨F1, F2, hc1, hc2, hF1, hF2, hap, hg⟩ := hlr.caps
          have hcl : c.length ≤ 1048576 := by
            have h1 := hlr.few
            have h2 := total_take_le ls k
            have h3 := HT.out
            omega
          have hBr : B ≤ wr.heap.size := by have h1 := hlr.below.size; have h2 := HB.out; omega
          have hBt := bytesOf_either B (B1 + 1) F2 limit c o wr hc2 (by omega)
          have HL : Hid (LT B B1 (B1 + 1) limit w (total (ls.take k)) c o c u9 wr) := hlr
          have HC1 : Hid (Cap wr B F1 B1 limit c o ∧ ∀ k, F1 k → B ≤ k ∧ k < wr.heap.size) := ⟨hc1, hF1⟩
          clear hlr hc1 hc2 hF1 hF2 hap hg
          go_wp2_with fail
          refine hBt.mono ?_
          rintro e w2 ⟨v, rfl, hv, hb2⟩
          clear hBt
          have HX : Hid (Cap w2 B F1 B1 limit c o ∧ (∀ k, F1 k → B ≤ k ∧ k < w2.heap.size) ∧ w2.ownsRow B 5 1 u9 c.length (bytesV c) ∧ Below B w w2 ∧ B ≤ w2.heap.size) := by
            have hs := hb2.size
            refine ⟨HC1.out.1.kept (fun k hk => hb2.block k (HC1.out.2 k hk).2) (fun _ h => h), fun k hk => ⟨(HC1.out.2 k hk).1, by have := (HC1.out.2 k hk).2; omega⟩, owns_kept HL.out.want (fun g hg => hb2.block g (HL.out.want.lt g hg).2), HL.out.below.trans (hb2.mono hBr), by omega⟩
          have hwant : Held w2 (fun _ => True) u9 c := held_of_ownsV HX.out.2.2.1 rfl
          have hSm := same_any (fun _ => True) (fun _ => True) v u9 c w2 hv hwant
          obtain ⟨pa, ca, rfl, _⟩ := hv
          have hwf : ∃ pb cb, u9 = .slice pb c.length cb := by obtain ⟨pb, cb, e, _⟩ := hwant; exact ⟨pb, cb, e⟩
          clear hwant hb2 HL HC1
          obtain ⟨pb, cb, rfl⟩ := hwf
          go_wp2_with fail
          refine hSm.mono ?_
          rintro e w3 ⟨rfl, hb3⟩
          clear hSm
          have HY : Hid (Cap w3 B F1 B1 limit c o ∧ w3.ownsRow B 5 1 (.slice pb c.length cb) c.length (bytesV c) ∧ Below B w w3 ∧ B ≤ w3.heap.size) := by
            obtain ⟨x1, x2, x3, x4, x5⟩ := HX.out
            exact ⟨x1.kept (fun k hk => hb3.block k (x2 k hk).2) (fun _ h => h), owns_kept x3 (fun g hg => hb3.block g (x3.lt g hg).2), x4.trans (hb3.mono x5), by have := hb3.size; omega⟩
          clear hb3 HX
          have hBt := bytesOf_either B B1 F1 limit c o w3 HY.out.1 (by omega)
          go_wp2_with fail
          refine hBt.mono ?_
          rintro e w4 ⟨v', rfl, hv', hb4⟩
          clear hBt
          have HZ : Hid (w4.ownsRow B 5 1 (.slice pb c.length cb) c.length (bytesV c) ∧ Below B w w4 ∧ B ≤ w4.heap.size) := by
            obtain ⟨x1, x3, x4, x5⟩ := HY.out
            exact ⟨owns_kept x3 (fun g hg => hb4.block g (x3.lt g hg).2), x4.trans (hb4.mono x5), by have := hb4.size; omega⟩
          have hSm := same_any (fun _ => True) (fun _ => True) v' (.slice pb c.length cb) c w4 hv' (held_of_ownsV HZ.out.1 rfl)
          obtain ⟨pa', ca', rfl, _⟩ := hv'
          clear hb4 HY
          go_wp2_with fail
          refine hSm.mono ?_
          rintro e w5 ⟨rfl, hb5'⟩
          clear hSm
          have HV : Hid (Below B w w5) := HZ.out.2.1.trans (hb5'.mono HZ.out.2.2)
          clear hb5' HZ
          go_wp2
          go_ret
          exact ⟨rfl, by rw [HB.out]; exact HV.out⟩
    · go_wp2
      go_ret
      exact ⟨rfl, Below.refl _ _⟩
  · go_wp2
    go_ret
    exact ⟨rfl, Below.refl _ _⟩

end Go.Proofs.Qxb6612609aDoor
