/-
  The capped writer in memory: its pieces, what it holds, what a step may turn.
-/
import Derived.Test.Qxb6612609aDoorBase
import Derived.Deep.AppendLies
namespace Go.Proofs.Qxb6612609aDoor
open Go.RowKit

/-- Of the blocks that were there, those of F alone may have turned. -/
structure Only (F : Nat → Prop) (w w' : World) : Prop where
  os : w'.os = w.os
  tape : w'.tape = w.tape
  output : w'.output = w.output
  size : w.heap.size ≤ w'.heap.size
  block : ∀ k, k < w.heap.size → ¬ F k → w'.heap[k]? = w.heap[k]?

theorem Only.refl (F : Nat → Prop) (w : World) : Only F w w := ⟨rfl, rfl, rfl, Nat.le_refl _, fun _ _ _ => rfl⟩
theorem Only.trans {F F' : Nat → Prop} {a b c : World} (h : Only F a b) (k : Only F' b c) (hs : ∀ i, i < a.heap.size → F' i → F i) : Only F a c :=
  ⟨k.os.trans h.os, k.tape.trans h.tape, k.output.trans h.output, Nat.le_trans h.size k.size,
    fun i hi hn => (k.block i (Nat.lt_of_lt_of_le hi h.size) (fun hf => hn (hs i hi hf))).trans (h.block i hi hn)⟩
theorem Only.below {F : Nat → Prop} {w w' : World} {B : Nat} (h : Only F w w') (hF : ∀ k, F k → B ≤ k) (hB : B ≤ w.heap.size) : Below B w w' :=
  ⟨h.os, h.tape, h.output, h.size, fun k hk => h.block k (by omega) (fun hf => by have := hF k hf; omega)⟩
theorem Only.ofBelow {F : Nat → Prop} {w w' : World} (h : Below w.heap.size w w') : Only F w w' :=
  ⟨h.os, h.tape, h.output, h.size, fun k hk _ => h.block k hk⟩
theorem Only.grown {F : Nat → Prop} {w w' : World} {row : Option Nat} (h : w.grownBy w' row) (hF : ∀ k, row = some k → F k) : Only F w w' :=
  ⟨h.os, h.tape, h.output, h.size, fun k hk hn => h.block k hk (fun e => hn (hF k e.symm))⟩
theorem Only.setCell {F : Nat → Prop} {w : World} {p : Addr} (hF : F p.block) (u : Value) : Only F w (w.setCell p u) :=
  ⟨rfl, rfl, rfl, by simp [World.setCell], fun k hk hn => Below.heap_setCell _ _ _ _ (fun e => hn (e ▸ hF))⟩
theorem Only.alloc (F : Nat → Prop) (w : World) (o : Obj) : Only F w (w.alloc o) := Only.ofBelow ((Below.refl _ _).alloc (Nat.le_refl _) o)
theorem Only.drew (F : Nat → Prop) (w : World) : Only F w w.drew := ⟨rfl, rfl, rfl, Nat.le_refl _, fun _ _ _ => rfl⟩
theorem Only.drewN (F : Nat → Prop) (w : World) (n : Nat) : Only F w (w.drewN n) := ⟨rfl, rfl, rfl, Nat.le_refl _, fun _ _ _ => rfl⟩

/-- F, and what has been made between the two worlds. -/
def Fr (F : Nat → Prop) (w w' : World) : Nat → Prop := fun k => F k ∨ (w.heap.size ≤ k ∧ k < w'.heap.size)

/-- The blocks of F are as they were. -/
def Kept (F : Nat → Prop) (w w' : World) : Prop := ∀ k, F k → w'.heap[k]? = w.heap[k]?

theorem owns_kept {w w' : World} {base e size n : Nat} {v : Value} {xs : List Value} (h : w.ownsRow base e size v n xs) (hk : ∀ g, v.ownBlock = some g → w'.heap[g]? = w.heap[g]?) : w'.ownsRow base e size v n xs := by
  refine ⟨h.1, ?_⟩
  rcases h.2 with hn | ⟨g, cap, cur, rfl, hb, hg, rest⟩
  · exact .inl hn
  · exact .inr ⟨g, cap, cur, rfl, hb, (hk g rfl).trans hg, rest⟩

/-- What block a value owns, and of which elements. -/
theorem owns_block {w : World} {base e size n : Nat} {v : Value} {xs : List Value} (h : w.ownsRow base e size v n xs) {g : Nat} (hg : v.ownBlock = some g) : ∃ cur, w.heap[g]? = some (.cells cur e (0, 0)) := by
  rcases h.2 with ⟨rfl, _⟩ | ⟨g', cap, cur, rfl, hb, hh, rest⟩
  · cases hg
  · cases hg; exact ⟨cur, hh⟩

/-- Two values that own rows of different element types own different blocks. -/
theorem owns_ne {w : World} {base base' e e' size size' n n' : Nat} {v v' : Value} {xs xs' : List Value} (h : w.ownsRow base e size v n xs) (h' : w.ownsRow base' e' size' v' n' xs') (hne : e ≠ e') {g g' : Nat} (hg : v.ownBlock = some g) (hg' : v'.ownBlock = some g') : g ≠ g' := by
  obtain ⟨c, hc⟩ := owns_block h hg
  obtain ⟨c', hc'⟩ := owns_block h' hg'
  rintro rfl
  rw [hc] at hc'
  simp at hc'
  exact hne hc'.2

theorem lt_of_heap {w : World} {b : Nat} {o : Obj} (h : w.heap[b]? = some o) : b < w.heap.size := (Array.getElem?_eq_some_iff.1 h).1

/-- One piece: its block, its capacity, its bytes. -/
structure Pc where
  b : Nat
  c : Nat
  l : List UInt8

def Pc.val (q : Pc) : Value := .slice (some ⟨q.b, 0, none⟩) q.l.length q.c
def bytesV (l : List UInt8) : List Value := l.map fun x => .int .u8 (x.toNat : Int)
theorem bytesV_length (l : List UInt8) : (bytesV l).length = l.length := by simp [bytesV]
theorem bytesV_append (l m : List UInt8) : bytesV (l ++ m) = bytesV l ++ bytesV m := by simp [bytesV]
theorem bytesV_one {l : List UInt8} : ∀ u ∈ bytesV l, u.oneCell' = true := by
  intro u hu
  simp only [bytesV, List.mem_map] at hu
  obtain ⟨x, _, rfl⟩ := hu
  rfl

/-- All that the pieces hold. -/
def cont (ps : List Pc) : List UInt8 := ps.flatMap Pc.l
theorem cont_append (a b : List Pc) : cont (a ++ b) = cont a ++ cont b := by simp [cont]
theorem cont_one (q : Pc) : cont [q] = q.l := by simp [cont]

structure Pieces (w : World) (B0 : Nat) (F : Nat → Prop) (pv : Value) (ps : List Pc) : Prop where
  row : w.ownsRow B0 27 1 pv ps.length (ps.map Pc.val)
  rowF : ∀ g, pv.ownBlock = some g → F g
  each : ∀ q ∈ ps, F q.b ∧ w.ownsRow B0 5 1 q.val q.l.length (bytesV q.l)
  apart : ∀ init q, ps = init ++ [q] → ∀ r ∈ init, r.b ≠ q.b

theorem Pieces.kept {w w' : World} {B0 : Nat} {F F' : Nat → Prop} {pv : Value} {ps : List Pc} (h : Pieces w B0 F pv ps) (hk : Kept F w w') (hs : ∀ k, F k → F' k) : Pieces w' B0 F' pv ps :=
  ⟨owns_kept h.row (fun g hg => hk g (h.rowF g hg)), fun g hg => hs g (h.rowF g hg),
    fun q hq => ⟨hs _ (h.each q hq).1, owns_kept (h.each q hq).2 (fun g hg => by cases hg; exact hk _ (h.each q hq).1)⟩, h.apart⟩

theorem Pieces.lt {w : World} {B0 : Nat} {F : Nat → Prop} {pv : Value} {ps : List Pc} (h : Pieces w B0 F pv ps) {q : Pc} (hq : q ∈ ps) : B0 ≤ q.b ∧ q.b < w.heap.size :=
  (h.each q hq).2.lt q.b rfl

/-- A new, empty piece behind the others. -/
theorem Pieces.more {w wA w1 : World} {B0 : Nat} {F : Nat → Prop} {pv : Value} {ps : List Pc} (h : Pieces w B0 F pv ps) {c g cap : Nat} {o2 : Obj} {cs : Array Value} (hcs : cs.size = c) (hc : c ≤ maxLen) (hB : B0 ≤ w.heap.size)
    (hA : wA.heap = ((w.alloc (.cells cs 5)).alloc o2).heap) (hgrow : wA.grownBy w1 pv.ownBlock)
    (hown : w1.ownsRow B0 27 1 (.slice (some ⟨g, 0, none⟩) (ps.length + 1) cap) (ps.length + 1) (ps.map Pc.val ++ [.slice (some ⟨w.heap.size, 0, none⟩) 0 c]))
    (hat : pv.ownBlock = some g ∨ g = w.heap.size + 2) (hlt : g < w1.heap.size) :
    Pieces w1 B0 (Fr F w w1) (.slice (some ⟨g, 0, none⟩) (ps.length + 1) cap) (ps ++ [⟨w.heap.size, c, []⟩]) := by
  have hsz : wA.heap.size = w.heap.size + 2 := by rw [hA]; simp
  have hs1 := hgrow.size
  have old : ∀ k, k < w.heap.size → wA.heap[k]? = w.heap[k]? := fun k hk => by
    rw [hA, Below.heap_alloc _ _ _ (by simp; omega), Below.heap_alloc _ _ _ hk]
  have hnew : wA.heap[w.heap.size]? = some (.cells cs 5 (0, 0)) := by
    rw [hA, Below.heap_alloc _ _ _ (by simp)]; exact heap_alloc_new w _
  have far : ∀ k, k < w.heap.size → some k ≠ pv.ownBlock → w1.heap[k]? = w.heap[k]? := fun k hk hn => (hgrow.block k (by omega) hn).trans (old k hk)
  refine ⟨by simpa [Pc.val] using hown, ?_, ?_, ?_⟩
  · intro g' hg'
    cases hg'
    rcases hat with hat | hat
    · exact .inl (h.rowF g hat)
    · exact .inr ⟨by show w.heap.size ≤ g; omega, hlt⟩
  · intro q hq
    rcases List.mem_append.1 hq with hq | hq
    · obtain ⟨hF, ho⟩ := h.each q hq
      refine ⟨.inl hF, owns_kept ho (fun g' hg' => ?_)⟩
      refine far g' (ho.lt g' hg').2 (fun e => ?_)
      exact owns_ne ho h.row (by decide) hg' e.symm rfl
    · simp only [List.mem_singleton] at hq
      subst hq
      refine ⟨.inr ⟨Nat.le_refl _, by simp; omega⟩, ?_⟩
      refine ⟨by simp [bytesV], .inr ⟨w.heap.size, c, cs, rfl, hB, ?_, by simp, hc, by simpa using hcs, by simp [bytesV]⟩⟩
      rw [hgrow.block w.heap.size (by omega) (fun e => by have := (h.row.lt _ e.symm).2; omega)]
      exact hnew
  · intro init q hq r hr
    obtain ⟨rfl, hq'⟩ := List.append_inj' hq rfl
    simp only [List.cons.injEq, and_true] at hq'
    subst hq'
    have := (h.lt hr).2
    simp
    omega

/-- Bytes behind those of the last piece. -/
theorem Pieces.onto {w w1 : World} {B0 : Nat} {F : Nat → Prop} {init : List Pc} {q : Pc} {gp capp : Nat} (h : Pieces w B0 F (.slice (some ⟨gp, 0, none⟩) (init.length + 1) capp) (init ++ [q])) {g cap : Nat} {new : List UInt8}
    (hgrow : w.grownBy w1 (some q.b))
    (hown : w1.ownsRow B0 5 1 (.slice (some ⟨g, 0, none⟩) (q.l.length + new.length) cap) (q.l.length + new.length) (bytesV q.l ++ bytesV new))
    (hat : q.b = g ∨ g = w.heap.size) (hlt : g < w1.heap.size) :
    Pieces (w1.setCell ⟨gp, init.length, none⟩ (.slice (some ⟨g, 0, none⟩) (q.l.length + new.length) cap)) B0 (Fr F w w1) (.slice (some ⟨gp, 0, none⟩) (init.length + 1) capp) (init ++ [⟨g, cap, q.l ++ new⟩]) := by
  have hs1 := hgrow.size
  have hq : q ∈ init ++ [q] := by simp
  have hne : gp ≠ q.b := owns_ne h.row (h.each q hq).2 (by decide) rfl rfl
  have hgp := (h.row.lt gp rfl).2
  have hrow1 : w1.ownsRow B0 27 1 (.slice (some ⟨gp, 0, none⟩) (init.length + 1) capp) (init.length + 1) ((init ++ [q]).map Pc.val) := by
    have := owns_kept (w' := w1) h.row (fun g' hg' => by cases hg'; exact hgrow.block gp hgp (fun e => hne (by cases e; rfl)))
    simpa using this
  have hne1 : gp ≠ g := owns_ne hrow1 hown (by decide) rfl rfl
  have hst := (hrow1.stored init.length (.slice (some ⟨g, 0, none⟩) (q.l.length + new.length) cap)).1
  refine ⟨?_, ?_, ?_, ?_⟩
  · have e : ((init ++ [q]).map Pc.val).set init.length (.slice (some ⟨g, 0, none⟩) (q.l.length + new.length) cap) = (init ++ [Pc.mk g cap (q.l ++ new)]).map Pc.val := by
      simp [Pc.val, List.set_append_right]
    rw [e] at hst
    simpa using hst
  · intro g' hg'
    cases hg'
    exact .inl (h.rowF gp rfl)
  · intro r hr
    rcases List.mem_append.1 hr with hr | hr
    · have hr' : r ∈ init ++ [q] := by simp [hr]
      obtain ⟨hF, ho⟩ := h.each r hr'
      refine ⟨.inl hF, owns_kept ho (fun g' hg' => ?_)⟩
      cases hg'
      have hne2 : r.b ≠ gp := owns_ne ho h.row (by decide) rfl rfl
      refine (Below.heap_setCell w1 ⟨gp, init.length, none⟩ _ r.b hne2).trans ?_
      exact hgrow.block r.b (h.lt hr').2 (fun e => h.apart init q rfl r hr (Option.some.inj e))
    · simp only [List.mem_singleton] at hr
      subst hr
      refine ⟨?_, ?_⟩
      · rcases hat with rfl | rfl
        · exact .inl (h.each q hq).1
        · exact .inr ⟨Nat.le_refl _, hlt⟩
      · have := ownsRow_setCell_other hown (a := ⟨gp, init.length, none⟩) (by simp [Value.ownBlock]; exact fun e => hne1 e.symm) (.slice (some ⟨g, 0, none⟩) (q.l.length + new.length) cap)
        simpa [Pc.val, bytesV_append] using this
  · intro init' q' hq' r hr
    obtain ⟨rfl, hq''⟩ := List.append_inj' hq' rfl
    simp only [List.cons.injEq, and_true] at hq''
    subst hq''
    have hr' : r ∈ init ++ [q] := by simp [hr]
    rcases hat with rfl | rfl
    · exact h.apart init q rfl r hr
    · have := (h.lt hr').2
      simp
      omega

/-- The capped writer without a text to follow. -/
structure CapP (w : World) (B0 : Nat) (F : Nat → Prop) (B : Nat) (limit : Int) (ps : List Pc) (over : Bool) : Prop where
  blk : ∃ pv, w.heap[B]? = some (.cells #[.int .i64 limit, .nilFunc, .slice none 0 0, pv, .int .i64 ((cont ps).length : Int), .bool over] 37 (0, 0)) ∧ Pieces w B0 F pv ps
  inF : F B
  ge : B0 ≤ B
  few : ps.length ≤ (cont ps).length + 1

theorem CapP.kept {w w' : World} {B0 : Nat} {F F' : Nat → Prop} {B : Nat} {limit : Int} {ps : List Pc} {over : Bool} (h : CapP w B0 F B limit ps over) (hk : Kept F w w') (hs : ∀ k, F k → F' k) : CapP w' B0 F' B limit ps over := by
  obtain ⟨pv, hb, hp⟩ := h.blk
  exact ⟨⟨pv, (hk B h.inF).trans hb, hp.kept hk hs⟩, hs B h.inF, h.ge, h.few⟩

end Go.Proofs.Qxb6612609aDoor
