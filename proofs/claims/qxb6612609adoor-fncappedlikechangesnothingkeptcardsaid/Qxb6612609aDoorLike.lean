/-
  A capped writer that follows a text: what it is in memory; Write while it follows, and where it departs.
-/
import Derived.Test.Qxb6612609aDoorBytes
import Derived.Deep.RegionHeld3
import Derived.Deep.DeepCutAuto
namespace Go.Proofs.Qxb6612609aDoor
open Go.RowKit

/-- The capped writer that follows the text l, m bytes of which have come. -/
structure CapL (w : World) (B0 : Nat) (F : Nat → Prop) (B : Nat) (limit : Int) (l : List UInt8) (m : Nat) (over : Bool) (lb lc : Nat) : Prop where
  blk : w.heap[B]? = some (.cells #[.int .i64 limit, .nilFunc, .slice (some ⟨lb, 0, none⟩) l.length lc, .slice none 0 0, .int .i64 (m : Int), .bool over] 37 (0, 0))
  text : w.ownsRow B0 5 1 (.slice (some ⟨lb, 0, none⟩) l.length lc) l.length (bytesV l)
  inF : F B
  inL : F lb
  ge : B0 ≤ B
  le : m ≤ l.length

theorem CapL.kept {w w' : World} {B0 : Nat} {F F' : Nat → Prop} {B : Nat} {limit : Int} {l : List UInt8} {m : Nat} {over : Bool} {lb lc : Nat} (h : CapL w B0 F B limit l m over lb lc) (hk : Kept F w w') (hs : ∀ k, F k → F' k) : CapL w' B0 F' B limit l m over lb lc :=
  ⟨(hk B h.inF).trans h.blk, owns_kept h.text (fun g hg => by cases hg; exact hk lb h.inL), hs _ h.inF, hs _ h.inL, h.ge, h.le⟩

theorem CapL.ne {w : World} {B0 : Nat} {F : Nat → Prop} {B : Nat} {limit : Int} {l : List UInt8} {m : Nat} {over : Bool} {lb lc : Nat} (h : CapL w B0 F B limit l m over lb lc) : lb ≠ B := fun e => ne_B h.text h.blk (by decide) (by rw [← e]; rfl)

/-- A capped writer of either kind. -/
def Cap (w : World) (B0 : Nat) (F : Nat → Prop) (B : Nat) (limit : Int) (c : List UInt8) (over : Bool) : Prop :=
  (∃ ps, CapP w B0 F B limit ps over ∧ cont ps = c) ∨ ∃ l m lb lc, CapL w B0 F B limit l m over lb lc ∧ c = l.take m ∧ l.length ≤ 1048576

/-- The writer's fields turned: over. -/
theorem capL_over {w : World} {B0 : Nat} {F : Nat → Prop} {B : Nat} {limit : Int} {l : List UInt8} {m : Nat} {over : Bool} {lb lc : Nat} (h : CapL w B0 F B limit l m over lb lc) (n : Nat) :
    CapL ((w.drewN n).setCell ⟨B, 5, none⟩ (.bool true)) B0 (Fr F w ((w.drewN n).setCell ⟨B, 5, none⟩ (.bool true))) B limit l m true lb lc ∧ Only F w ((w.drewN n).setCell ⟨B, 5, none⟩ (.bool true)) := by
  have h' : CapL (w.drewN n) B0 F B limit l m over lb lc := h.kept (fun _ _ => rfl) (fun _ hk => hk)
  refine ⟨⟨?_, owns_kept h'.text (fun g hg => by cases hg; exact Below.heap_setCell _ _ _ _ h.ne), .inl h.inF, .inl h.inL, h.ge, h.le⟩, (Only.drewN F w n).trans (Only.setCell h.inF _) (fun _ _ hf => hf)⟩
  rw [heap_set h'.blk]; simp

/-- More of the text has come. -/
theorem capL_more {w : World} {B0 : Nat} {F : Nat → Prop} {B : Nat} {limit : Int} {l : List UInt8} {m : Nat} {over : Bool} {lb lc : Nat} (h : CapL w B0 F B limit l m over lb lc) (n k : Nat) (hk : m + k ≤ l.length) {W : World} (hW : W = (w.drewN n).setCell ⟨B, 4, none⟩ (.int .i64 ((m + k : Nat) : Int))) :
    CapL W B0 (Fr F w W) B limit l (m + k) over lb lc ∧ Only F w W := by
  subst hW
  have h' : CapL (w.drewN n) B0 F B limit l m over lb lc := h.kept (fun _ _ => rfl) (fun _ hk => hk)
  refine ⟨⟨?_, owns_kept h'.text (fun g hg => by cases hg; exact Below.heap_setCell _ _ _ _ h.ne), .inl h.inF, .inl h.inL, h.ge, hk⟩, (Only.drewN F w n).trans (Only.setCell h.inF _) (fun _ _ hf => hf)⟩
  rw [heap_set h'.blk]; simp

/-- Does p go on as the text does? -/
def follows (l : List UInt8) (m : Nat) (p : List UInt8) : Bool := decide (m + p.length ≤ l.length) && (l.drop m).take p.length == p

/-- The numbers of a list of bytes. -/
def nums (l : List UInt8) : List Int := l.map fun x => (x.toNat : Int)
theorem bytesOf_nums (l : List UInt8) : Lib.bytesOf (nums l) = l := by
  unfold Lib.bytesOf nums
  rw [List.map_map]
  conv => rhs; rw [← List.map_id l]
  apply List.map_congr_left
  intro x _
  simp

theorem bytesIn_of_held {w : World} {F : Nat → Prop} {p : Option Addr} {n c : Nat} {l : List UInt8} (h : Held w F (.slice p n c) l) (hn : l.length = n) : Lib.BytesIn w p n (nums l) := by
  subst hn
  obtain ⟨p', c', e, _, _, _, hc⟩ := h
  simp only [Value.slice.injEq] at e
  obtain ⟨rfl, _, rfl⟩ := e
  intro hpos
  obtain ⟨b, o, e, _, hcell⟩ := hc hpos
  refine ⟨b, o, e, fun i hi => ?_⟩
  rw [hcell i _ (List.getElem?_eq_getElem hi)]
  simp [nums, List.getD_eq_getElem?_getD, List.getElem?_eq_getElem hi]

theorem cell_at_set {w : World} {B i j : Nat} {v : Value} (h : w.cell? ⟨B, i, none⟩ = some v) (hij : j ≠ i) (x : Value) : (w.setCell ⟨B, j, none⟩ x).cell? ⟨B, i, none⟩ = some v :=
  (World.cell?_setCell_other _ _ _ _ (fun e => hij (by simpa using congrArg Addr.off e))).trans h
theorem cell2d {w : World} {a : Addr} {v : Value} (h : w.cell? a = some v) (o1 o2 : Obj) : ((w.alloc o1).alloc o2).drew.cell? a = some v := cell2 h o1 o2

/-- The blocks of the writer once it has let the text go. -/
def Fd (F : Nat → Prop) (lb H : Nat) : Nat → Prop := fun k => (F k ∧ k ≠ lb) ∨ (H ≤ k ∧ k < H + 2)

/-- Where the writer departs: a first piece, empty. -/
theorem dep_cap {W0 : World} {B0 : Nat} {F : Nat → Prop} {B : Nat} {limit : Int} {lb cN H : Nat} (hH : W0.heap.size = H) (hb : W0.heap[B]? = some (.cells #[.int .i64 limit, .nilFunc, .slice none 0 0, .slice (some ⟨H + 1, 0, none⟩) 1 1, .int .i64 0, .bool false] 37 (0, 0)))
    (hF : F B) (hne : lb ≠ B) (hge : B0 ≤ B) (hB0 : B0 ≤ H) (hc : cN ≤ 4259840) :
    CapP ((W0.alloc (.cells (zeroes cN) 5)).alloc (.cells #[.slice (some ⟨H, 0, none⟩) 0 cN] 27)) B0 (Fd F lb H) B limit [⟨H, cN, []⟩] false := by
  subst hH
  have lB := lt_of_heap hb
  refine ⟨⟨.slice (some ⟨W0.heap.size + 1, 0, none⟩) 1 1, ?_, ?_⟩, .inl ⟨hF, fun e => hne e.symm⟩, hge, by simp⟩
  · rw [Below.heap_alloc _ _ _ (by simp; omega), Below.heap_alloc _ _ _ lB]
    simpa [cont] using hb
  · refine ⟨?_, ?_, ?_, ?_⟩
    · exact ⟨by simp [Pc.val], .inr ⟨W0.heap.size + 1, 1, #[.slice (some ⟨W0.heap.size, 0, none⟩) 0 cN], rfl, by omega, heap_alloc_new2 _ _ _, by simp, by simp [maxLen], by simp, by simp [Pc.val]⟩⟩
    · intro g hg
      cases hg
      exact .inr ⟨by simp, by simp⟩
    · intro q hq
      simp only [List.mem_singleton] at hq
      subst hq
      refine ⟨.inr ⟨Nat.le_refl _, by simp⟩, by simp [bytesV], .inr ⟨W0.heap.size, cN, zeroes cN, rfl, hB0, ?_, by simp, by unfold maxLen; omega, by simpa using zeroes_size cN, by simp [bytesV]⟩⟩
      rw [Below.heap_alloc _ _ _ (by simp)]
      exact heap_alloc_new _ _
    · intro init q hq r hr
      cases init with
      | nil => simp at hr
      | cons a b => simp at hq

theorem Held.only {w w' : World} {F Fp : Nat → Prop} {v : Value} {l : List UInt8} (h : Held w Fp v l) (ho : Only F w w') (hF : ∀ b, Fp b → b < w.heap.size ∧ ¬ F b) : Held w' Fp v l := by
  obtain ⟨p, cap, rfl, h1, h2, h3, h4⟩ := h
  refine ⟨p, cap, rfl, h1, h2, h3, fun hl => ?_⟩
  obtain ⟨b, off, rfl, hb, hc⟩ := h4 hl
  exact ⟨b, off, rfl, hb, fun i x hx => (World.cell?_of_block (w := w) (ho.block b (hF b hb).1 (hF b hb).2)).trans (hc i x hx)⟩

/-- The world in which the writer has let the text go. -/
theorem departed {w w2 W3 : World} {B0 : Nat} {F Fp : Nat → Prop} {B : Nat} {limit : Int} {l p : List UInt8} {m ln lb lc cN n cp : Nat} {pp : Option Addr} (hC : CapL w2 B0 F B limit l m false lb lc) (hH : Held w2 Fp (.slice pp n cp) p) (hln : l.length = ln)
    (hO : Only F w w2) (hz : w2.heap.size = w.heap.size) (hFp : ∀ b, Fp b → b < w.heap.size ∧ ¬ F b) (hB0 : B0 ≤ w2.heap.size) (hm : m ≤ ln) (hc : cN ≤ 4259840)
    (hW : W3 = (((((w2.setCell ⟨B, 3, none⟩ (.slice (some ⟨w2.heap.size + 1, 0, none⟩) 1 1)).setCell ⟨B, 2, none⟩ (.slice none 0 0)).setCell ⟨B, 4, none⟩ (.int .i64 0)).alloc (.cells (zeroes cN) 5)).alloc (.cells #[.slice (some ⟨w2.heap.size, 0, none⟩) 0 cN] 27)).drew) :
    CapP W3 B0 (Fd F lb w.heap.size) B limit [⟨w.heap.size, cN, []⟩] false ∧ Held W3 (· = lb) (.slice (some ⟨lb, 0, none⟩) m lc) (l.take m) ∧ Held W3 Fp (.slice pp n cp) p ∧ Only F w W3 ∧ W3.heap.size = w.heap.size + 2 := by
  have hs1 : (((w2.setCell ⟨B, 3, none⟩ (.slice (some ⟨w2.heap.size + 1, 0, none⟩) 1 1)).setCell ⟨B, 2, none⟩ (.slice none 0 0)).setCell ⟨B, 4, none⟩ (.int .i64 0)).heap.size = w2.heap.size := by simp [World.setCell]
  have hb1 := heap_set (i := 3) hC.blk (.slice (some ⟨w2.heap.size + 1, 0, none⟩) 1 1)
  have hb2 := heap_set (i := 2) hb1 (.slice none 0 0)
  have hb3 := heap_set (i := 4) hb2 (.int .i64 0)
  simp only [List.setIfInBounds_toArray, List.set_cons_succ, List.set_cons_zero] at hb3
  have hcap := dep_cap (F := F) (lb := lb) hs1 hb3 hC.inF hC.ne hC.ge hB0 hc
  have o1 : Only F w2 W3 := by
    rw [hW]
    have a1 : Only F w2 (((w2.setCell ⟨B, 3, none⟩ (.slice (some ⟨w2.heap.size + 1, 0, none⟩) 1 1)).setCell ⟨B, 2, none⟩ (.slice none 0 0)).setCell ⟨B, 4, none⟩ (.int .i64 0)) :=
      ((Only.setCell hC.inF _).trans (Only.setCell (F := F) hC.inF _) (fun _ _ h => h)).trans (Only.setCell (F := F) hC.inF _) (fun _ _ h => h)
    exact ((a1.trans (Only.alloc F _ _) (fun _ _ h => h)).trans (Only.alloc F _ _) (fun _ _ h => h)).trans (Only.drew F _) (fun _ _ h => h)
  have hlb : W3.heap[lb]? = w2.heap[lb]? := by
    have l1 := (hC.text.lt lb rfl).2
    rw [hW]
    show (((((w2.setCell ⟨B, 3, none⟩ (.slice (some ⟨w2.heap.size + 1, 0, none⟩) 1 1)).setCell ⟨B, 2, none⟩ (.slice none 0 0)).setCell ⟨B, 4, none⟩ (.int .i64 0)).alloc (.cells (zeroes cN) 5)).alloc (.cells #[.slice (some ⟨w2.heap.size, 0, none⟩) 0 cN] 27)).heap[lb]? = _
    rw [Below.heap_alloc _ _ _ (by simp [World.setCell]; omega), Below.heap_alloc _ _ _ (by omega), Below.heap_setCell _ _ _ _ hC.ne, Below.heap_setCell _ _ _ _ hC.ne, Below.heap_setCell _ _ _ _ hC.ne]
  have htx : W3.ownsRow B0 5 1 (.slice (some ⟨lb, 0, none⟩) l.length lc) l.length (bytesV l) := owns_kept hC.text (fun g hg => by cases hg; exact hlb)
  have hcl : l.length ≤ lc ∧ lc ≤ maxLen := by
    rcases hC.text.2 with ⟨h', _⟩ | ⟨g', cap', cur, h', _, _, h1, h2, _⟩
    · cases h'
    · simp only [Value.slice.injEq] at h'
      obtain ⟨_, _, rfl⟩ := h'
      exact ⟨h1, h2⟩
  have htl : (l.take m).length = m := by simp; omega
  refine ⟨?_, ?_, hH.only o1 (fun b hb => ⟨by rw [hz]; exact (hFp b hb).1, (hFp b hb).2⟩), hO.trans o1 (fun _ _ h => h), ?_⟩
  · rw [hz] at hcap
    rw [hW, hz]
    exact hcap.kept (fun _ _ => rfl) (fun _ h => h)
  · refine ⟨_, lc, by rw [htl], by rw [htl]; omega, hcl.2, (fun h => by cases h), fun hp => ⟨lb, 0, rfl, rfl, fun i x hx => ?_⟩⟩
    have hi : i < m := by have := (List.getElem?_eq_some_iff.1 hx).1; omega
    rw [List.getElem?_take, if_pos hi] at hx
    rw [Nat.zero_add, htx.cellAt i (by omega)]
    simp [bytesV, hx]
  · rw [hW]
    show (((((w2.setCell ⟨B, 3, none⟩ (.slice (some ⟨w2.heap.size + 1, 0, none⟩) 1 1)).setCell ⟨B, 2, none⟩ (.slice none 0 0)).setCell ⟨B, 4, none⟩ (.int .i64 0)).alloc (.cells (zeroes cN) 5)).alloc (.cells #[.slice (some ⟨w2.heap.size, 0, none⟩) 0 cN] 27)).heap.size = _
    rw [World.size_alloc, World.size_alloc, hs1, hz]

set_option maxRecDepth 100000 in
set_option maxHeartbeats 600000 in
theorem write_like (hkeep : KeepSaid) (B0 B : Nat) (F Fp : Nat → Prop) (limit : Int) (l : List UInt8) (m : Nat) (over : Bool) (lb lc : Nat) (pv : Value) (p : List UInt8) (w : World)
    (hc : CapL w B0 F B limit l m over lb lc) (hp : Held w Fp pv p) (hFp : ∀ b, Fp b → b < w.heap.size ∧ ¬ F b) (hF : ∀ k, F k → B0 ≤ k ∧ k < w.heap.size)
    (hlim : limit ≤ 9223372036854775807) (hsm : l.length + p.length ≤ 4194304) (hB0 : B0 ≤ w.heap.size) (h20 : l.length ≤ 1048576) :
    Calls Tryd.prog 13 #[.pointer (some ⟨B, 0, none⟩), pv] w fun e w' => e = .returned (.tuple #[.int .i64 (p.length : Int), .nilIface]) ∧
      Cap w' B0 (Fr F w w') B limit (stepC limit (l.take m) over p) (stepB limit (l.take m) over p) ∧ Only F w w' := by
  have H20 : Hid (l.length ≤ 1048576) := h20
  clear h20
  have hblk := hc.blk
  have hmle := hc.le
  have htl : (l.take m).length = m := by simp; omega
  have c0 : w.cell? ⟨B, 0, none⟩ = some (.int .i64 limit) := by rw [cell_of_row _ _ _ _ _ _ hblk]; rfl
  have c1 : w.cell? ⟨B, 1, none⟩ = some .nilFunc := by rw [cell_of_row _ _ _ _ _ _ hblk]; rfl
  have c2 : w.cell? ⟨B, 2, none⟩ = some (.slice (some ⟨lb, 0, none⟩) l.length lc) := by rw [cell_of_row _ _ _ _ _ _ hblk]; rfl
  have c3 : w.cell? ⟨B, 3, none⟩ = some (.slice none 0 0) := by rw [cell_of_row _ _ _ _ _ _ hblk]; rfl
  have c4 : w.cell? ⟨B, 4, none⟩ = some (.int .i64 m) := by rw [cell_of_row _ _ _ _ _ _ hblk]; rfl
  have c5 : w.cell? ⟨B, 5, none⟩ = some (.bool over) := by rw [cell_of_row _ _ _ _ _ _ hblk]; rfl
  have f2 : w.frozen? ⟨B, 2, none⟩ = false := frozen_of_row _ _ _ _ _ hblk
  have f3 : w.frozen? ⟨B, 3, none⟩ = false := frozen_of_row _ _ _ _ _ hblk
  have f4 : w.frozen? ⟨B, 4, none⟩ = false := frozen_of_row _ _ _ _ _ hblk
  have f5 : w.frozen? ⟨B, 5, none⟩ = false := frozen_of_row _ _ _ _ _ hblk
  have hlc : l.length ≤ lc ∧ lc ≤ 9223372036854775807 := by
    refine ⟨?_, owns_cap hc.text⟩
    rcases hc.text.2 with ⟨h', _⟩ | ⟨g', cap', cur, h', _, _, hlc, _⟩
    · cases h'
    · simp only [Value.slice.injEq] at h'
      omega
  obtain ⟨hlc1, hlc2⟩ := hlc
  have lB : B < w.heap.size := lt_of_heap hblk
  have HC : Hid (CapL w B0 F B limit l m over lb lc) := hc
  have HTL : Hid ((l.take m).length = m) := htl
  have HF : Hid (∀ k, F k → B0 ≤ k ∧ k < w.heap.size) := hF
  clear hc hblk htl hF
  have hp' := hp
  obtain ⟨pp, cp, rfl, hpl, hpm, _, _⟩ := hp
  obtain ⟨n, hn⟩ : ∃ n, p.length = n := ⟨_, rfl⟩
  have HN : Hid (p.length = n) := hn
  rw [hn] at hsm hpl
  simp only [hn]
  have HP : Hid (Held w Fp (.slice pp n cp) p) := by rw [hn] at hp'; exact hp'
  clear hp' hn
  obtain ⟨ln, hln⟩ : ∃ ln, l.length = ln := ⟨_, rfl⟩
  have HLN : Hid (l.length = ln) := hln
  rw [hln] at hsm hmle c2 hlc1
  clear hln
  have hfn : ∀ W : World, (binOp .neq 1 .nilFunc .nilFunc).run Tryd.prog W = .ok (.bool false) W := neq_nilFunc
  have hln0 : ∀ W : World, (binOp .neq 27 (.slice (some ⟨lb, 0, none⟩) ln lc) (.slice none 0 0)).run Tryd.prog W = .ok (.bool true) W := fun W => run_neq_slice_nil_any W 27 5 _ _ _ _ _ Tryd.underlying27
  have hsum : IntKind.i64.wrap ((m : Int) + (n : Int)) = (m : Int) + (n : Int) := by rw [IntKind.wrap_i64]; omega
  by_cases hb : stepB limit (l.take m) over p = true
  · have HB : Hid (stepB limit (l.take m) over p = true) := hb
    have hcase : over = true ∨ over = false ∧ limit < (m : Int) + (n : Int) := by
      have h1 := HTL.out; have h2 := HN.out
      cases over
      · right; simp only [stepB, Bool.false_or, decide_eq_true_eq] at hb; exact ⟨rfl, by rw [h1, h2] at hb; omega⟩
      · exact .inl rfl
    clear hb
    rcases hcase with rfl | ⟨rfl, hlt⟩
    all_goals
      go_enter Tryd.func13, Tryd.ntmps13
      go_wp2
      go_quiet (fail)
      go_wp2
      go_ret2
      refine ⟨rfl, .inr ⟨l, m, lb, lc, ?_, ?_, H20.out⟩, (capL_over HC.out _).2⟩
      · rw [HB.out]; exact (capL_over HC.out _).1
      · unfold stepC; rw [HB.out]; rfl
  · have HB : Hid (stepB limit (l.take m) over p = false) := by simpa [Hid] using hb
    have hcase : over = false ∧ (m : Int) + (n : Int) ≤ limit := by
      have h1 := HTL.out; have h2 := HN.out
      cases over
      · refine ⟨rfl, ?_⟩; simp only [stepB, Bool.false_or, decide_eq_true_eq] at hb; rw [h1, h2] at hb; omega
      · simp [stepB] at hb
    clear hb
    obtain ⟨rfl, hle⟩ := hcase
    go_enter Tryd.func13, Tryd.ntmps13
    go_wp2
    go_quiet (fail)
    go_wp2_with fail
    have HX : Hid (CapL (w.drewN nq) B0 F B limit l m false lb lc ∧ Held (w.drewN nq) Fp (.slice pp n cp) p ∧ Only F w (w.drewN nq) ∧ (w.drewN nq).heap.size = w.heap.size) :=
      ⟨HC.out.kept (fun _ _ => rfl) (fun _ hk => hk), HP.out.drewN nq, Only.drewN F w nq, rfl⟩
    clear c0 c1 c2 c3 c4 c5 f2 f3 f4 f5 HC HP
    generalize w.drewN nq = w1 at *
    obtain ⟨hC1, hH1, hO1, hz1⟩ := HX.out
    have hblk := hC1.blk
    rw [HLN.out] at hblk
    have c0 : w1.cell? ⟨B, 0, none⟩ = some (.int .i64 limit) := by rw [cell_of_row _ _ _ _ _ _ hblk]; rfl
    have c2 : w1.cell? ⟨B, 2, none⟩ = some (.slice (some ⟨lb, 0, none⟩) ln lc) := by rw [cell_of_row _ _ _ _ _ _ hblk]; rfl
    have c3 : w1.cell? ⟨B, 3, none⟩ = some (.slice none 0 0) := by rw [cell_of_row _ _ _ _ _ _ hblk]; rfl
    have c4 : w1.cell? ⟨B, 4, none⟩ = some (.int .i64 m) := by rw [cell_of_row _ _ _ _ _ _ hblk]; rfl
    have f2 : w1.frozen? ⟨B, 2, none⟩ = false := frozen_of_row _ _ _ _ _ hblk
    have f3 : w1.frozen? ⟨B, 3, none⟩ = false := frozen_of_row _ _ _ _ _ hblk
    have f4 : w1.frozen? ⟨B, 4, none⟩ = false := frozen_of_row _ _ _ _ _ hblk
    have HC : Hid (CapL w1 B0 F B limit l m false lb lc) := hC1
    have HP : Hid (Held w1 Fp (.slice pp n cp) p) := hH1
    have HO : Hid (Only F w w1 ∧ w1.heap.size = w.heap.size) := ⟨hO1, hz1⟩
    clear HX hC1 hH1 hO1 hz1 hblk
    go_cut [74] (fun tv wx => tv = .bool (follows l m p) ∧ ∃ nq, w1.drewN nq = wx)
    case first =>
      by_cases hle2 : m + n ≤ ln
      · have HEQ : Hid (∀ (ad : Option Addr) (cq k : Nat), (0 < n → ad = some ⟨lb, m, none⟩) → Calls Tryd.prog 15 #[.slice ad n cq, .slice pp n cp] (w1.drewN k) fun e w' => e = .returned (.bool (follows l m p)) ∧ w' = w1.drewN k) := by
          intro ad cq k had
          have hx : (nums ((l.drop m).take n)).length = n := by have := HLN.out; simp [nums]; omega
          have hy : (nums p).length = n := by have := HN.out; simp [nums]; omega
          have h1 : Lib.BytesIn (w1.drewN k) ad n (nums ((l.drop m).take n)) := by
            intro hpos
            refine ⟨lb, m, had hpos, fun i hi => ?_⟩
            have hll := HLN.out
            show w1.cell? ⟨lb, m + i, none⟩ = _
            rw [HC.out.text.cellAt (m + i) (by omega)]
            have hmi : m + i < l.length := by omega
            simp [bytesV, nums, List.getD_eq_getElem?_getD, List.getElem?_drop, hmi, hi]
          have h2 : Lib.BytesIn (w1.drewN k) pp n (nums p) := bytesIn_of_held (HP.out.drewN k) HN.out
          have := Tryd.bytes_Equal_all ad pp n cq n cp _ _ (w1.drewN k) hx hy h1 h2
          rw [bytesOf_nums, bytesOf_nums] at this
          have hfo : follows l m p = ((l.drop m).take n == p) := by unfold follows; rw [HN.out, HLN.out]; simp [hle2]
          rw [hfo]
          exact this
        have hd : decide ((m : Int) + (n : Int) ≤ (ln : Int)) = true := by simp; omega
        have i1 : (0 : Int) ≤ (m : Int) := by omega
        have i2 : (m : Int) ≤ (m : Int) + (n : Int) := by omega
        have i3 : (m : Int) + (n : Int) ≤ (lc : Int) := by omega
        have htn : ((m : Int) + (n : Int)).toNat = m + n := by omega
        by_cases hlcm : lc = m
        · go_quiet ((go_at_call 15; exact Calls.quiet_of_same (HEQ.out (some ⟨lb, 0, none⟩) _ _ (fun h => by omega))))
          go_wp2_with fail
          go_meet
          case rel => exact ⟨rfl, _, rfl⟩
        · go_quiet ((go_at_call 15; exact Calls.quiet_of_same (HEQ.out (some ⟨lb, m, none⟩) _ _ (fun _ => rfl))))
          go_wp2_with fail
          go_meet
          case rel => exact ⟨rfl, _, rfl⟩
      · have hd : decide ((m : Int) + (n : Int) ≤ (ln : Int)) = false := by simp; omega
        go_quiet (fail)
        go_wp2_with fail
        go_meet
        case rel =>
          refine ⟨?_, _, rfl⟩
          have : follows l m p = false := by unfold follows; rw [HN.out, HLN.out]; simp; omega
          rw [this]
    case rest =>
      obtain ⟨rfl, nq2, rfl⟩ := hcut
      cases hfo : follows l m p
      · have i0 : (0 : Int) ≤ (m : Int) := by omega
        have i4 : (m : Int) ≤ (lc : Int) := by omega
        clear hfo
        go_wp2_with fail
        go_quiet (fail)
        go_wp2_with fail
        have HX : Hid (CapL ((w1.drewN nq2).drewN nq) B0 F B limit l m false lb lc ∧ Held ((w1.drewN nq2).drewN nq) Fp (.slice pp n cp) p ∧ Only F w ((w1.drewN nq2).drewN nq) ∧ ((w1.drewN nq2).drewN nq).heap.size = w.heap.size) :=
          ⟨HC.out.kept (fun _ _ => rfl) (fun _ hk => hk), (HP.out.drewN nq2).drewN nq, (HO.out.1.trans (Only.drewN F _ nq2) (fun _ _ h => h)).trans (Only.drewN F _ nq) (fun _ _ h => h), HO.out.2⟩
        clear c0 c2 c3 c4 f2 f3 f4 HC HP HO
        generalize (w1.drewN nq2).drewN nq = w2 at *
        obtain ⟨hC1, hH1, hO1, hz1⟩ := HX.out
        have hblk := hC1.blk
        rw [HLN.out] at hblk
        have c0 : w2.cell? ⟨B, 0, none⟩ = some (.int .i64 limit) := by rw [cell_of_row _ _ _ _ _ _ hblk]; rfl
        have c2 : w2.cell? ⟨B, 2, none⟩ = some (.slice (some ⟨lb, 0, none⟩) ln lc) := by rw [cell_of_row _ _ _ _ _ _ hblk]; rfl
        have c3 : w2.cell? ⟨B, 3, none⟩ = some (.slice none 0 0) := by rw [cell_of_row _ _ _ _ _ _ hblk]; rfl
        have c4 : w2.cell? ⟨B, 4, none⟩ = some (.int .i64 m) := by rw [cell_of_row _ _ _ _ _ _ hblk]; rfl
        have f2 : w2.frozen? ⟨B, 2, none⟩ = false := frozen_of_row _ _ _ _ _ hblk
        have f3 : w2.frozen? ⟨B, 3, none⟩ = false := frozen_of_row _ _ _ _ _ hblk
        have f4 : w2.frozen? ⟨B, 4, none⟩ = false := frozen_of_row _ _ _ _ _ hblk
        have lB2 : B < w2.heap.size := lt_of_heap hblk
        have HC : Hid (CapL w2 B0 F B limit l m false lb lc) := hC1
        have HP : Hid (Held w2 Fp (.slice pp n cp) p) := hH1
        have HO : Hid (Only F w w2 ∧ w2.heap.size = w.heap.size) := ⟨hO1, hz1⟩
        clear HX hC1 hH1 hO1 hz1 hblk
        have hadd : IntKind.i64.wrap ((ln : Int) + 65536) = (ln : Int) + 65536 := by rw [IntKind.wrap_i64]; omega
        obtain ⟨cN, hcN, hcN1⟩ : ∃ cN : Nat, min limit ((ln : Int) + 65536) = (cN : Int) ∧ cN ≤ 4259840 :=
          ⟨(min limit ((ln : Int) + 65536)).toNat, by omega, by omega⟩
        have hmk : ∀ W : World, (Instr.makeSlice 27 (.int .i64 0) (.int .i64 (cN : Int))).run Tryd.prog W = .ok (.slice (some ⟨W.heap.size, 0, none⟩) 0 cN) (W.alloc (.cells (zeroes cN) 5)) := fun W => make_bytes cN W (by omega)
        have kA0 : ∀ x o1 o2, (((w2.setCell ⟨B, 3, none⟩ x).alloc o1).alloc o2).cell? ⟨B, 0, none⟩ = some (.int .i64 limit) := fun x o1 o2 => cell2 (cell_at_set (j := 3) (i := 0) c0 (by decide) _) _ _
        have kA2 : ∀ x o1 o2, (((w2.setCell ⟨B, 3, none⟩ x).alloc o1).alloc o2).cell? ⟨B, 2, none⟩ = some (.slice (some ⟨lb, 0, none⟩) ln lc) := fun x o1 o2 => cell2 (cell_at_set (j := 3) (i := 2) c2 (by decide) _) _ _
        have kC0 : ∀ o, (w2.alloc o).cell? ⟨B, 0, none⟩ = some (.int .i64 limit) := fun o => cell1 c0 o
        have kC2 : ∀ o, (w2.alloc o).cell? ⟨B, 2, none⟩ = some (.slice (some ⟨lb, 0, none⟩) ln lc) := fun o => cell1 c2 o
        have kD0 : ∀ o1 o2, ((w2.alloc o1).alloc o2).cell? ⟨B, 0, none⟩ = some (.int .i64 limit) := fun o1 o2 => cell2 c0 _ _
        have kD2 : ∀ o1 o2, ((w2.alloc o1).alloc o2).cell? ⟨B, 2, none⟩ = some (.slice (some ⟨lb, 0, none⟩) ln lc) := fun o1 o2 => cell2 c2 _ _
        have HLE : Hid ((m : Int) + (n : Int) ≤ limit) := hle
        clear hfn hln0 hsum hpl hpm
        go_region_held3 (fun w' => w'.cell? ⟨B, 0, none⟩ = some (.int .i64 limit) ∧ w'.cell? ⟨B, 2, none⟩ = some (.slice (some ⟨lb, 0, none⟩) ln lc))
          (go_keep) (fail)
        clear kA0 kA2 kC0 kC2 kD0 kD2
        go_wp2_with fail
        obtain ⟨W3, hW3⟩ : ∃ W3, W3 = (((((w2.setCell ⟨B, 3, none⟩ (.slice (some ⟨w2.heap.size + 1, 0, none⟩) 1 1)).setCell ⟨B, 2, none⟩ (.slice none 0 0)).setCell ⟨B, 4, none⟩ (.int .i64 0)).alloc (.cells (zeroes cN) 5)).alloc (.cells #[.slice (some ⟨w2.heap.size, 0, none⟩) 0 cN] 27)).drew := ⟨_, rfl⟩
        rw [← hW3]
        have HD := departed HC.out HP.out HLN.out HO.out.1 HO.out.2 hFp (by rw [HO.out.2]; exact hB0) hmle hcN1 hW3
        clear hW3 c0 c2 c3 c4 f2 f3 f4 hmk hadd hcN
        obtain ⟨hcap0, hml, hpl, honly0, hsz0⟩ := HD
        refine (hkeep B0 B (Fd F lb w.heap.size) (· = lb) limit [⟨w.heap.size, cN, []⟩] false _ (l.take m) W3 hcap0 hml (fun b hb => ?_) ?_ hlim ?_ (by omega)).mono ?_
        · have hbl : b = lb := hb
          have h1 := HC.out.text.lt lb rfl
          have h2 := HO.out.2
          refine ⟨by omega, fun hf => ?_⟩
          rcases hf with hf | hf
          · exact hf.2 hbl
          · omega
        · rw [HTL.out]; simp [cont]; omega
        · rw [HTL.out]; simp [cont]; omega
        rintro e w3 ⟨ps1, rfl, hcap1, hcont1, honly1⟩
        have hFd : ∀ b, Fp b → b < W3.heap.size ∧ ¬ Fd F lb w.heap.size b := fun b hb => by
          have := hFp b hb
          refine ⟨by omega, fun hf => ?_⟩
          rcases hf with hf | hf
          · exact this.2 hf.1
          · omega
        have hpl3 : Held w3 Fp (.slice pp n cp) p := hpl.only honly1 hFd
        have hs3 := honly1.size
        have hFd3 : ∀ b, Fp b → b < w3.heap.size ∧ ¬ Fr (Fd F lb w.heap.size) W3 w3 b := fun b hb => by
          have h1 := hFd b hb
          have h2 := hFp b hb
          refine ⟨by omega, fun hf => ?_⟩
          rcases hf with hf | hf
          · exact h1.2 hf
          · omega
        have hcl1 : (cont ps1).length = m := by rw [hcont1, List.length_append, HTL.out]; simp [cont]
        have hK2 := hkeep B0 B (Fr (Fd F lb w.heap.size) W3 w3) Fp limit ps1 false _ p w3 hcap1 hpl3 hFd3 (by rw [hcl1, HN.out]; exact HLE.out) hlim (by rw [hcl1, HN.out]; omega) (by omega)
        have HA : Hid (Only F w W3 ∧ Only (Fd F lb w.heap.size) W3 w3 ∧ cont ps1 = l.take m ∧ W3.heap.size = w.heap.size + 2) := ⟨honly0, honly1, by rw [hcont1]; simp [cont], hsz0⟩
        clear hcap0 hml hpl honly0 hcap1 hcont1 honly1 hpl3 hFd hFd3 hcl1 HC HP HO hFp
        go_wp2_with fail
        refine hK2.mono ?_
        rintro e w4 ⟨ps2, rfl, hcap2, hcont2, honly2⟩
        have HB2 : Hid (CapP w4 B0 (Fr (Fr (Fd F lb w.heap.size) W3 w3) w3 w4) B limit ps2 false ∧ cont ps2 = cont ps1 ++ p ∧ Only (Fr (Fd F lb w.heap.size) W3 w3) w3 w4) := ⟨hcap2, hcont2, honly2⟩
        clear hcap2 hcont2 honly2 hK2
        go_wp2
        go_ret2
        obtain ⟨a1, a2, a3, a4⟩ := HA.out
        obtain ⟨b1, b2, b3⟩ := HB2.out
        have s4 := b3.size
        refine ⟨rfl, .inl ⟨ps2, ?_, ?_⟩, ?_⟩
        · rw [HB.out]
          refine b1.kept (fun _ _ => rfl) (fun k hk => ?_)
          rcases hk with (((hk | hk) | hk) | hk)
          · exact .inl hk.1
          · exact .inr (by omega)
          · exact .inr (by omega)
          · exact .inr (by omega)
        · unfold stepC; rw [HB.out, b2, a3]; rfl
        · have lo : ∀ i, i < w.heap.size → Fd F lb w.heap.size i → F i := fun i hi hf => by
            rcases hf with hf | hf
            · exact hf.1
            · omega
          refine (a1.trans a2 lo).trans b3 (fun i hi hf => ?_)
          rcases hf with hf | hf
          · exact lo i hi hf
          · omega
      · have HFO : Hid (follows l m p = true) := hfo
        have hmn : m + n ≤ ln := by
          have h1 := HN.out; have h2 := HLN.out
          unfold follows at hfo
          simp only [Bool.and_eq_true, decide_eq_true_eq] at hfo
          omega
        clear hfo
        go_wp2
        go_ret2
        have hR := capL_more HC.out nq2 n (by have := HLN.out; omega) (W := _) rfl
        rw [Int.natCast_add] at hR
        obtain ⟨ho, hz⟩ := HO.out
        have hFrr : ∀ W : World, ∀ k, Fr F w1 W k → Fr F w W k := fun W k hk => by
          rcases hk with hk | hk
          · exact .inl hk
          · exact .inr ⟨by omega, hk.2⟩
        refine ⟨rfl, .inr ⟨l, m + n, lb, lc, ?_, ?_, H20.out⟩, ?_⟩
        · rw [HB.out]; exact hR.1.kept (fun _ _ => rfl) (hFrr _)
        · unfold stepC
          rw [HB.out]
          have h3 := HFO.out
          unfold follows at h3
          simp only [Bool.and_eq_true, beq_iff_eq] at h3
          have h4 := h3.2
          rw [HN.out] at h4
          rw [List.take_add, h4]
          rfl
        · exact ho.trans hR.2 (fun _ _ h => h)

end Go.Proofs.Qxb6612609aDoor
