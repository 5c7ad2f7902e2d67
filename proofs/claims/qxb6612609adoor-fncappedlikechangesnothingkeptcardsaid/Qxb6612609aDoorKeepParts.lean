/-
  keep's parts: what its statements do to the capped writer in memory; no walk here.
-/
import Derived.Test.Qxb6612609aDoorCap
namespace Go.Proofs.Qxb6612609aDoor
open Go.RowKit

theorem info27 : (Tryd.prog.info? 27).map (fun i => (i.zero, i.size, i.bytes)) = some (some (.slice none 0 0), 1, 24) := by kernel_rfl
theorem info5 : (Tryd.prog.info? 5).map (fun i => (i.zero, i.size, i.bytes)) = some (some (.int .u8 0), 1, 1) := by kernel_rfl

theorem owns_slice {w : World} {base e size n : Nat} {v : Value} {xs : List Value} (h : w.ownsRow base e size v n xs) : ∃ ao c, v = .slice ao n c := by
  rcases h.2 with ⟨rfl, rfl⟩ | ⟨g, cap, cur, rfl, _⟩
  · exact ⟨_, _, rfl⟩
  · exact ⟨_, _, rfl⟩

theorem owns_cap {w : World} {base e size n g m c : Nat} {xs : List Value} (h : w.ownsRow base e size (.slice (some ⟨g, 0, none⟩) m c) n xs) : c ≤ 9223372036854775807 := by
  rcases h.2 with ⟨h', _⟩ | ⟨g', cap, cur, h', _, _, _, hm, _⟩
  · cases h'
  · simp only [Value.slice.injEq] at h'
    unfold maxLen at hm
    omega

theorem last_at {w : World} {B0 : Nat} {F : Nat → Prop} {ao : Option Addr} {n c : Nat} {init : List Pc} {q : Pc} (h : Pieces w B0 F (.slice ao n c) (init ++ [q])) :
    ∃ g, ao = some ⟨g, 0, none⟩ ∧ w.cell? ⟨g, init.length, none⟩ = some (.slice (some ⟨q.b, 0, none⟩) q.l.length q.c) := by
  obtain ⟨g, cap, e, _⟩ := h.row.form (by simp)
  simp only [Value.slice.injEq] at e
  obtain ⟨rfl, rfl, rfl⟩ := e
  refine ⟨g, rfl, ?_⟩
  rw [h.row.cellAt init.length (by simp)]
  simp [Pc.val]

theorem last_frozen {w : World} {B0 : Nat} {F : Nat → Prop} {g n c : Nat} {init : List Pc} {q : Pc} (h : Pieces w B0 F (.slice (some ⟨g, 0, none⟩) n c) (init ++ [q])) (j : Nat) : w.frozen? ⟨g, j, none⟩ = false := by
  obtain ⟨cur, hh⟩ := owns_block h.row (g := g) rfl
  exact frozen_of_row _ _ _ _ _ hh

/-- Is there no room in the last piece? -/
def toFill (ps : List Pc) : Bool := match ps.getLast? with | none => true | some q => q.l.length == q.c

/-- What keep has done after j bytes. -/
structure KR (B0 B : Nat) (F : Nat → Prop) (limit : Int) (ps : List Pc) (over : Bool) (p : List UInt8) (w : World) (j : Nat) (ps' : List Pc) (wr : World) : Prop where
  cap : CapP wr B0 (Fr F w wr) B limit ps' over
  cont : cont ps' = cont ps ++ p.take j
  only : Only F w wr

theorem KR.drewN {B0 B : Nat} {F : Nat → Prop} {limit : Int} {ps : List Pc} {over : Bool} {p : List UInt8} {w : World} {j : Nat} {ps' : List Pc} {wr : World} (h : KR B0 B F limit ps over p w j ps' wr) (n : Nat) : KR B0 B F limit ps over p w j ps' (wr.drewN n) :=
  ⟨h.cap.kept (fun _ _ => rfl) (fun _ hk => hk), h.cont, h.only.trans (Only.drewN F _ n) (fun _ _ hf => hf)⟩

/-- Where p lies. -/
def Lies (p : List UInt8) (pp : Option Addr) (F : Nat → Prop) (w : World) : Prop :=
  0 < p.length → ∃ b off, pp = some ⟨b, off, none⟩ ∧ (b < w.heap.size ∧ ¬ F b) ∧ ∀ i x, p[i]? = some x → w.cell? ⟨b, off + i, none⟩ = some (.int .u8 (x.toNat : Int))

theorem heap_alloc_new2 (w : World) (o1 o2 : Obj) : ((w.alloc o1).alloc o2).heap[w.heap.size + 1]? = some o2 := by
  have := heap_alloc_new (w.alloc o1) o2
  rwa [World.size_alloc] at this

theorem froz2 {w : World} {a : Addr} (ha : a.block < w.heap.size) (h : w.frozen? a = false) (o1 o2 : Obj) : ((w.alloc o1).alloc o2).frozen? a = false := by
  have hb : Below w.heap.size w ((w.alloc o1).alloc o2) := ((Below.refl _ _).alloc (Nat.le_refl _) _).alloc (by simp) _
  exact (hb.frozen ha).trans h

theorem cell1 {w : World} {a : Addr} {v : Value} (h : w.cell? a = some v) (o1 : Obj) : (w.alloc o1).cell? a = some v := by
  have ha := World.block_lt_of_cell? w a h
  have hb : Below w.heap.size w (w.alloc o1) := (Below.refl _ _).alloc (Nat.le_refl _) _
  exact (hb.cell ha).trans h

theorem cell2 {w : World} {a : Addr} {v : Value} (h : w.cell? a = some v) (o1 o2 : Obj) : ((w.alloc o1).alloc o2).cell? a = some v := cell1 (cell1 h o1) o2

/-- c zero bytes. -/
def zeroes (c : Nat) : Array Value := madeCells #[.int .u8 0] c
theorem zeroes_size (c : Nat) : (zeroes c).size = c := size_madeCells _ _

theorem make_bytes (c : Nat) (W : World) (hc : c ≤ 16777216) : (Instr.makeSlice 27 (.int .i64 0) (.int .i64 (c : Int))).run Tryd.prog W = .ok (.slice (some ⟨W.heap.size, 0, none⟩) 0 c) (W.alloc (.cells (zeroes c) 5)) := by
  obtain ⟨i5, hi5, hz5, hs5, hb5⟩ := info_parts info5
  have := run_make (P := Tryd.prog) W 27 5 i5 _ Tryd.underlying27 hi5 hz5 .i64 .i64 0 (c : Int) (by omega) (by omega) (by rw [hb5]; omega) (by omega)
  rw [this]
  simp [zeroes, hs5, Value.cells]

/-- Behind the test: the last piece has room. -/
structure Mid (B0 B : Nat) (F : Nat → Prop) (limit : Int) (ps : List Pc) (over : Bool) (w : World) (s : Nat) (init : List Pc) (q : Pc) (gp capp : Nat) (wx : World) : Prop where
  blk : wx.heap[B]? = some (.cells #[.int .i64 limit, .nilFunc, .slice none 0 0, .slice (some ⟨gp, 0, none⟩) (init.length + 1) capp, .int .i64 (s : Int), .bool over] 37 (0, 0))
  pieces : Pieces wx B0 (Fr F w wx) (.slice (some ⟨gp, 0, none⟩) (init.length + 1) capp) (init ++ [q])
  room : q.l.length < q.c
  cont : cont (init ++ [q]) = cont ps
  only : Only F w wx
  few : init.length ≤ s + 1
  inF : F B

theorem heap_set {w : World} {B i : Nat} {cs : Array Value} {t : TypeId} (h : w.heap[B]? = some (.cells cs t (0, 0))) (v : Value) : (w.setCell ⟨B, i, none⟩ v).heap[B]? = some (.cells (cs.setIfInBounds i v) t (0, 0)) :=
  heap_setCell_same w B i cs t v h

/-- A store into the struct's own block leaves the pieces. -/
theorem Pieces.setB {w : World} {B0 : Nat} {F : Nat → Prop} {pv : Value} {ps : List Pc} (h : Pieces w B0 F pv ps) {B i : Nat} {cs : Array Value} (hB : w.heap[B]? = some (.cells cs 37 (0, 0))) (v : Value) : Pieces (w.setCell ⟨B, i, none⟩ v) B0 F pv ps := by
  have ne : ∀ {e n : Nat} {u : Value} {xs : List Value} {g : Nat}, w.ownsRow B0 e 1 u n xs → u.ownBlock = some g → e ≠ 37 → g ≠ B := fun ho hg he hgB => by
    obtain ⟨cur, hc⟩ := owns_block ho hg
    rw [hgB, hB] at hc
    simp at hc
    exact he hc.2.symm
  refine ⟨owns_kept h.row (fun g hg => Below.heap_setCell _ _ _ _ (ne h.row hg (by decide))), h.rowF, fun q hq => ⟨(h.each q hq).1, owns_kept (h.each q hq).2 (fun g hg => Below.heap_setCell _ _ _ _ (ne (h.each q hq).2 hg (by decide)))⟩, h.apart⟩

theorem ne_B {w : World} {base e n : Nat} {u : Value} {xs : List Value} {B : Nat} {cs : Array Value} (ho : w.ownsRow base e 1 u n xs) (hB : w.heap[B]? = some (.cells cs 37 (0, 0))) (he : e ≠ 37) : u.ownBlock ≠ some B := fun hg => by
  obtain ⟨cur, hc⟩ := owns_block ho hg
  rw [hB] at hc
  simp at hc
  exact he hc.2.symm

theorem Fr.mono {F : Nat → Prop} {w a b : World} (h : a.heap.size ≤ b.heap.size) {k : Nat} (hk : Fr F w a k) : Fr F w b k := by
  rcases hk with hk | hk
  · exact .inl hk
  · exact .inr ⟨hk.1, by omega⟩
theorem Fr.twice {F : Nat → Prop} {w a b : World} (hwa : w.heap.size ≤ a.heap.size) (h : a.heap.size ≤ b.heap.size) {k : Nat} (hk : Fr (Fr F w a) a b k) : Fr F w b k := by
  rcases hk with hk | hk
  · exact Fr.mono h hk
  · exact .inr ⟨by omega, hk.2⟩

/-- A new piece has been made. -/
theorem mid_of_more {B0 B : Nat} {F : Nat → Prop} {limit : Int} {ps0 : List Pc} {over : Bool} {p : List UInt8} {w : World} {j : Nat} {ps : List Pc} {wr wA w1 : World} {pv : Value} {s c g cap : Nat} {o2 : Obj}
    (hkr : KR B0 B F limit ps0 over p w j ps wr) (hblk : wr.heap[B]? = some (.cells #[.int .i64 limit, .nilFunc, .slice none 0 0, pv, .int .i64 (s : Int), .bool over] 37 (0, 0))) (hP : Pieces wr B0 (Fr F w wr) pv ps) (hs : (cont ps).length = s)
    (hF : F B) (hB0 : B0 ≤ wr.heap.size) (hc0 : 0 < c) (hc : c ≤ 65536)
    (hA : wA.heap = ((wr.alloc (.cells (zeroes c) 5)).alloc o2).heap) (hAo : wA.os = wr.os) (hAt : wA.tape = wr.tape) (hAu : wA.output = wr.output)
    (hgrow : wA.grownBy w1 pv.ownBlock)
    (hown : w1.ownsRow B0 27 1 (.slice (some ⟨g, 0, none⟩) (ps.length + 1) cap) (ps.length + 1) (ps.map Pc.val ++ [.slice (some ⟨wr.heap.size, 0, none⟩) 0 c]))
    (hat : pv.ownBlock = some g ∨ g = wr.heap.size + 2) (hlt : g < w1.heap.size) :
    Mid B0 B F limit ps over w s ps ⟨wr.heap.size, c, []⟩ g cap (w1.setCell ⟨B, 3, none⟩ (.slice (some ⟨g, 0, none⟩) (ps.length + 1) cap)) := by
  have hsz : wA.heap.size = wr.heap.size + 2 := by rw [hA]; simp
  have hs1 := hgrow.size
  have lB := lt_of_heap hblk
  have hneB : pv.ownBlock ≠ some B := ne_B hP.row hblk (by decide)
  have hB1 : w1.heap[B]? = some (.cells #[.int .i64 limit, .nilFunc, .slice none 0 0, pv, .int .i64 (s : Int), .bool over] 37 (0, 0)) := by
    rw [hgrow.block B (by omega) (Ne.symm hneB), hA, Below.heap_alloc _ _ _ (by simp; omega), Below.heap_alloc _ _ _ lB]
    exact hblk
  have hM := hP.more (zeroes_size c) (by unfold maxLen; omega) hB0 hA hgrow hown hat hlt
  have hM' := hM.setB hB1 (i := 3) (.slice (some ⟨g, 0, none⟩) (ps.length + 1) cap)
  have hsz1 : ((w1.setCell ⟨B, 3, none⟩ (.slice (some ⟨g, 0, none⟩) (ps.length + 1) cap))).heap.size = w1.heap.size := by simp [World.setCell]
  have hwr := hkr.only.size
  refine ⟨?_, ?_, by simpa using hc0, ?_, ?_, ?_, hF⟩
  · rw [heap_set hB1]; simp
  · refine hM'.kept (fun _ _ => rfl) (fun k hk => ?_)
    exact Fr.mono (by omega) (Fr.twice hwr (by omega) hk)
  · simp [cont_append, cont_one]
  · have o1 : Only (Fr F w wr) wr wA := ⟨hAo, hAt, hAu, by omega, fun k hk _ => by rw [hA, Below.heap_alloc _ _ _ (by simp; omega), Below.heap_alloc _ _ _ hk]⟩
    have o2 : Only (Fr F w wr) wA w1 := Only.grown hgrow (fun k hk => hP.rowF k hk)
    have o3 : Only F w1 (w1.setCell ⟨B, 3, none⟩ (.slice (some ⟨g, 0, none⟩) (ps.length + 1) cap)) := Only.setCell hF _
    have low : ∀ i, i < w.heap.size → Fr F w wr i → F i := fun i hi hf => by
      rcases hf with hf | hf
      · exact hf
      · omega
    exact ((hkr.only.trans o1 low).trans o2 low).trans o3 (fun _ _ h => h)
  · have := hkr.cap.few
    omega

/-- Bytes have been put behind those of the last piece. -/
theorem step_of_mid {B0 B : Nat} {F : Nat → Prop} {limit : Int} {ps : List Pc} {over : Bool} {w : World} {s : Nat} {init : List Pc} {q : Pc} {gp capp : Nat} {wc w1 : World} {g cap : Nat} {new : List UInt8}
    (h : Mid B0 B F limit ps over w s init q gp capp wc) (hs : (cont ps).length = s) (hge : B0 ≤ B) (hnew : 0 < new.length)
    (hgrow : wc.grownBy w1 (some q.b)) (hown : w1.ownsRow B0 5 1 (.slice (some ⟨g, 0, none⟩) (q.l.length + new.length) cap) (q.l.length + new.length) (bytesV q.l ++ bytesV new))
    (hat : q.b = g ∨ g = wc.heap.size) (hlt : g < w1.heap.size) {W : World}
    (hW : W = (w1.setCell ⟨gp, init.length, none⟩ (.slice (some ⟨g, 0, none⟩) (q.l.length + new.length) cap)).setCell ⟨B, 4, none⟩ (.int .i64 ((s + new.length : Nat) : Int))) :
    CapP W B0 (Fr F w W) B limit (init ++ [⟨g, cap, q.l ++ new⟩]) over ∧ cont (init ++ [⟨g, cap, q.l ++ new⟩]) = cont ps ++ new ∧ Only F w W := by
  have hcont : cont (init ++ [⟨g, cap, q.l ++ new⟩]) = cont ps ++ new := by
    rw [← h.cont]; simp [cont_append, cont_one]
  have hM := h.pieces.onto hgrow hown hat hlt
  have hq : q ∈ init ++ [q] := by simp
  have hqb : q.b ≠ B := fun e => ne_B (h.pieces.each q hq).2 h.blk (by decide) (by rw [← e]; rfl)
  have hgb : gp ≠ B := fun e => ne_B h.pieces.row h.blk (by decide) (by rw [← e]; rfl)
  have lB := lt_of_heap h.blk
  have hs1 := hgrow.size
  have hwc := h.only.size
  have hB1 : (w1.setCell ⟨gp, init.length, none⟩ (.slice (some ⟨g, 0, none⟩) (q.l.length + new.length) cap)).heap[B]? = some (.cells #[.int .i64 limit, .nilFunc, .slice none 0 0, .slice (some ⟨gp, 0, none⟩) (init.length + 1) capp, .int .i64 (s : Int), .bool over] 37 (0, 0)) := by
    rw [Below.heap_setCell _ _ _ _ (fun e => hgb e.symm), hgrow.block B lB (fun e => hqb (Option.some.inj e).symm)]
    exact h.blk
  have hM' := hM.setB hB1 (i := 4) (.int .i64 ((s + new.length : Nat) : Int))
  have hszW : W.heap.size = w1.heap.size := by rw [hW]; simp [World.setCell]
  have hlen : (cont (init ++ [⟨g, cap, q.l ++ new⟩])).length = s + new.length := by rw [hcont, List.length_append, hs]
  refine ⟨⟨⟨.slice (some ⟨gp, 0, none⟩) (init.length + 1) capp, ?_, ?_⟩, .inl h.inF, hge, ?_⟩, hcont, ?_⟩
  · rw [hW, heap_set hB1, hlen]; simp
  · rw [hW] at *
    refine hM'.kept (fun _ _ => rfl) (fun k hk => ?_)
    exact Fr.mono (by omega) (Fr.twice hwc (by omega) hk)
  · rw [hlen]
    have := h.few
    simp
    omega
  · have low : ∀ i, i < w.heap.size → Fr F w wc i → F i := fun i hi hf => by
      rcases hf with hf | hf
      · exact hf
      · omega
    have o2 : Only (Fr F w wc) wc w1 := Only.grown hgrow (fun k hk => by cases hk; exact (h.pieces.each q hq).1)
    have o3 : Only (Fr F w wc) w1 (w1.setCell ⟨gp, init.length, none⟩ (.slice (some ⟨g, 0, none⟩) (q.l.length + new.length) cap)) := Only.setCell (h.pieces.rowF gp rfl) _
    have o4 : Only F (w1.setCell ⟨gp, init.length, none⟩ (.slice (some ⟨g, 0, none⟩) (q.l.length + new.length) cap)) W := by rw [hW]; exact Only.setCell h.inF _
    exact ((h.only.trans o2 low).trans o3 low).trans o4 (fun _ _ h => h)

/-- The bytes of p that are put next. -/
theorem next_bytes {p : List UInt8} {pp : Option Addr} {F : Nat → Prop} {w wc : World} {pb po j kk gk : Nat} (hp : Lies p pp F w) (hpp : pp = some ⟨pb, po, none⟩) (ho : Only F w wc) (hj : j + gk = p.length) (hk : kk ≤ gk) (h0 : 0 < kk) :
    (bytesV ((p.drop j).take kk)).length = kk * 1 ∧ ∀ i u, (bytesV ((p.drop j).take kk))[i]? = some u → wc.cell? ((⟨pb, po + j, none⟩ : Addr).add i) = some u := by
  obtain ⟨b, off, e, ⟨hlt, hn⟩, hc⟩ := hp (by omega)
  rw [hpp] at e
  simp only [Option.some.injEq, Addr.mk.injEq] at e
  obtain ⟨rfl, rfl, _⟩ := e
  refine ⟨by simp [bytesV]; omega, fun i u hu => ?_⟩
  simp only [bytesV, List.getElem?_map, List.getElem?_take, List.getElem?_drop] at hu
  split at hu
  · obtain ⟨x, hx, rfl⟩ := Option.map_eq_some_iff.1 hu
    have := hc (j + i) x hx
    rw [add_plain, Nat.add_assoc, World.cell?_of_block (w := w) (ho.block pb hlt hn)]
    exact this
  · cases hu

end Go.Proofs.Qxb6612609aDoor
