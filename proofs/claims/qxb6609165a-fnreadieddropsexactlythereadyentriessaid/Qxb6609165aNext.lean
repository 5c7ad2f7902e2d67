/-
  The table in the making: what Readied holds while it goes round.
-/
import Derived.Test.Qxb6609165aPlain
namespace Go.Proofs.Qxb6609165a
open Go.RowKit

/-- The slice v does not lie in block B. -/
def Apart (v : Value) (B : Nat) : Prop := ∀ p n c, v = .slice (some p) n c → 0 < n → p.block ≠ B

theorem NRL.but {a0 : Addr} {w w' : World} {v : Value} {l : List (ByteArray × Int)} (h : NRL w v l) (hb : But a0 w w') (ha : Apart v a0.block) : NRL w' v l := by
  obtain ⟨⟨p, cap, rfl, h1, h2, h3, h4⟩, h5⟩ := h
  refine ⟨⟨p, cap, rfl, h1, h2, h3, fun hp => ?_⟩, h5⟩
  obtain ⟨b, off, rfl, hc⟩ := h4 hp
  refine ⟨b, off, rfl, fun i r hr j x hx => ?_⟩
  have hcell := hc i r hr j x hx
  rw [hb.cell _ (cell_lt hcell) (fun e => ha _ _ _ rfl hp (by rw [← e]))]
  exact hcell

/-- How many entries of slot k have been looked at, when the rounds stand at (i, j). -/
def doneAt (i j k : Nat) (s : SlotD) : Nat := if k < i then s.es.length else if k = i then j else 0

/-- The list at one slot of the new table. -/
structure St (rd : Nat → ByteArray → Bool) (k : Nat) (s : SlotD) (j : Nat) (v : Value) (sb : Nat) (wr : World) : Prop where
  list : NRL wr v (cur rd k s.es j)
  apart : Apart v sb
  same : (∀ x ∈ s.es.take j, rd k x.1 = false) → v = s.nr
  nils : (∃ x ∈ s.es.take j, rd k x.1 = true) → (v = .slice none 0 0 ↔ cur rd k s.es j = [])

/-- Block B is plain cells. -/
def Plainly (w : World) (B : Nat) : Prop := ∃ ca ta, w.heap[B]? = some (.cells ca ta (0, 0))

theorem Plainly.lt {w : World} {B : Nat} (h : Plainly w B) : B < w.heap.size := by
  obtain ⟨ca, ta, h⟩ := h
  rcases Nat.lt_or_ge B w.heap.size with h' | h'
  · exact h'
  · rw [Array.getElem?_eq_none h'] at h
    simp at h

theorem Plainly.later {w w' : World} {B : Nat} (h : Plainly w B) (hb : Below w.heap.size w w') : Plainly w' B := by
  have hl := h.lt
  obtain ⟨ca, ta, h⟩ := h
  exact ⟨ca, ta, by rw [hb.block B hl]; exact h⟩

/-- The new table. -/
structure Nb (rd : Nat → ByteArray → Bool) (tf te av : Value) (ss : List SlotD) (N i j tb sb cap : Nat) (wr : World) : Prop where
  htb : N ≤ tb
  hsb : N ≤ sb
  ne : tb ≠ sb
  obj : Plainly wr tb
  c0 : wr.cell? ⟨tb, 0, none⟩ = some tf
  c1 : wr.cell? ⟨tb, 1, none⟩ = some te
  c2 : wr.cell? ⟨tb, 2, none⟩ = some (.slice (some ⟨sb, 0, none⟩) ss.length cap)
  c3 : wr.cell? ⟨tb, 3, none⟩ = some av
  hcap : ss.length ≤ cap
  hmax : cap ≤ maxLen
  slots : ∀ k s, ss[k]? = some s → (wr.cell? ⟨sb, k * 5, none⟩ = some (.int .i64 s.id) ∧ wr.cell? ⟨sb, k * 5 + 1, none⟩ = some (.string s.leader) ∧ wr.cell? ⟨sb, k * 5 + 2, none⟩ = some (.int .u64 s.lepoch) ∧ wr.cell? ⟨sb, k * 5 + 3, none⟩ = some s.fol) ∧
    wr.frozen? ⟨sb, k * 5 + 4, none⟩ = false ∧ ∃ v, wr.cell? ⟨sb, k * 5 + 4, none⟩ = some v ∧ St rd k s (doneAt i j k s) v sb wr

/-- Either the table itself, nothing having been ready; or the new one. -/
def Nx (rd : Nat → ByteArray → Bool) (T : Nat) (tf te av : Value) (ss : List SlotD) (N i j : Nat) (nv : Value) (wr : World) : Prop :=
  (nv = .pointer (some ⟨T, 0, none⟩) ∧ ∀ k s, ss[k]? = some s → ∀ x ∈ s.es.take (doneAt i j k s), rd k x.1 = false) ∨
  ∃ tb sb cap, nv = .pointer (some ⟨tb, 0, none⟩) ∧ Nb rd tf te av ss N i j tb sb cap wr ∧ ∃ k s x, ss[k]? = some s ∧ x ∈ s.es.take (doneAt i j k s) ∧ rd k x.1 = true

section
variable {rd : Nat → ByteArray → Bool} {T : Nat} {tf te av : Value} {ss : List SlotD} {N i j tb sb cap : Nat} {nv : Value} {wr w' : World}

theorem St.later {k : Nat} {s : SlotD} {v : Value} (h : St rd k s j v sb wr) (hb : Below wr.heap.size wr w') : St rd k s j v sb w' := ⟨h.list.later hb, h.apart, h.same, h.nils⟩

theorem Nb.later (h : Nb rd tf te av ss N i j tb sb cap wr) (hb : Below wr.heap.size wr w') : Nb rd tf te av ss N i j tb sb cap w' :=
  ⟨h.htb, h.hsb, h.ne, h.obj.later hb, cell_later hb h.c0, cell_later hb h.c1, cell_later hb h.c2, cell_later hb h.c3, h.hcap, h.hmax, fun k s hk => by
    obtain ⟨⟨a0, a1, a2, a3⟩, f, v, hv, hs⟩ := h.slots k s hk
    exact ⟨⟨cell_later hb a0, cell_later hb a1, cell_later hb a2, cell_later hb a3⟩, frozen_later hb (cell_lt hv) f, v, cell_later hb hv, hs.later hb⟩⟩

theorem Nx.later (h : Nx rd T tf te av ss N i j nv wr) (hb : Below wr.heap.size wr w') : Nx rd T tf te av ss N i j nv w' := by
  rcases h with h | ⟨tb, sb, cap, e, h, hx⟩
  · exact .inl h
  · exact .inr ⟨tb, sb, cap, e, h.later hb, hx⟩

/-- The count alone matters. -/
theorem Nb.again {i' j' : Nat} (h : Nb rd tf te av ss N i j tb sb cap wr) (he : ∀ k s, ss[k]? = some s → doneAt i' j' k s = doneAt i j k s) : Nb rd tf te av ss N i' j' tb sb cap wr :=
  ⟨h.htb, h.hsb, h.ne, h.obj, h.c0, h.c1, h.c2, h.c3, h.hcap, h.hmax, fun k s hk => by rw [he k s hk]; exact h.slots k s hk⟩

theorem done_next {s0 : SlotD} (hi : ss[i]? = some s0) : ∀ k s, ss[k]? = some s → doneAt (i + 1) 0 k s = doneAt i s0.es.length k s := by
  intro k s hk
  unfold doneAt
  rcases Nat.lt_trichotomy k i with h | h | h
  · rw [if_pos (by omega), if_pos h]
  · subst h
    obtain rfl : s = s0 := by rw [hi] at hk; exact (Option.some.inj hk).symm
    rw [if_pos (by omega), if_neg (by omega), if_pos rfl]
  · rw [if_neg (show ¬ k < i + 1 by omega), if_neg (show ¬ k < i by omega), if_neg (show ¬ k = i by omega)]
    split <;> rfl

theorem Nx.next {s0 : SlotD} (h : Nx rd T tf te av ss N i s0.es.length nv wr) (hi : ss[i]? = some s0) : Nx rd T tf te av ss N (i + 1) 0 nv wr := by
  rcases h with ⟨e, h⟩ | ⟨tb, sb, cap, e, h, k, s, x, hk, hx, hr⟩
  · exact .inl ⟨e, fun k s hk => by rw [done_next hi k s hk]; exact h k s hk⟩
  · exact .inr ⟨tb, sb, cap, e, h.again (done_next hi), k, s, x, hk, by rw [done_next hi k s hk]; exact hx, hr⟩

theorem done_other {k : Nat} {s : SlotD} (h : k ≠ i) (j' : Nat) : doneAt i j' k s = doneAt i j k s := by
  unfold doneAt
  rw [if_neg h, if_neg h]

theorem done_self {s : SlotD} : doneAt i j i s = j := by
  unfold doneAt
  rw [if_neg (by omega), if_pos rfl]

theorem Nx.skip {s0 : SlotD} {x0 : ByteArray × Int} (h : Nx rd T tf te av ss N i j nv wr) (hi : ss[i]? = some s0) (hj : s0.es[j]? = some x0) (hr : rd i x0.1 = false) : Nx rd T tf te av ss N i (j + 1) nv wr := by
  rcases h with ⟨e, h⟩ | ⟨tb, sb, cap, e, h, k, s, x, hk, hx, hx1⟩
  · refine .inl ⟨e, fun k s hk => ?_⟩
    by_cases hki : k = i
    · subst hki
      obtain rfl : s = s0 := by rw [hi] at hk; exact (Option.some.inj hk).symm
      have := h k s hk
      rw [done_self] at this ⊢
      exact take_succ_quiet hj hr this
    · rw [done_other hki (j := j)]
      exact h k s hk
  · refine .inr ⟨tb, sb, cap, e, ?_, k, s, x, hk, ?_, hx1⟩
    · refine ⟨h.htb, h.hsb, h.ne, h.obj, h.c0, h.c1, h.c2, h.c3, h.hcap, h.hmax, fun k s hk => ?_⟩
      obtain ⟨a, f, v, hv, hs⟩ := h.slots k s hk
      refine ⟨a, f, v, hv, ?_⟩
      by_cases hki : k = i
      · subst hki
        obtain rfl : s = s0 := by rw [hi] at hk; exact (Option.some.inj hk).symm
        rw [done_self] at hs ⊢
        refine ⟨by rw [cur_skip hj hr]; exact hs.list, hs.apart, fun hq => hs.same fun y hy => hq y (take_succ_old hy), ?_⟩
        rintro ⟨y, hy, hy1⟩
        rw [cur_skip hj hr]
        refine hs.nils ⟨y, ?_, hy1⟩
        rw [List.take_add_one, hj] at hy
        rcases List.mem_append.mp hy with hy | hy
        · exact hy
        · obtain rfl : y = x0 := by simpa using hy
          rw [hr] at hy1
          simp at hy1
      · rw [done_other hki (j := j)]
        exact hs
    · by_cases hki : k = i
      · subst hki
        rw [done_self] at hx ⊢
        exact take_succ_old hx
      · rw [done_other hki (j := j)]
        exact hx

/-- MarkReady at the slot's list. -/
theorem Nb.mark {s0 : SlotD} {x0 : ByteArray × Int} {e : Ending} (h : Nb rd tf te av ss N i j tb sb cap wr) (hi : ss[i]? = some s0) (hj : s0.es[j]? = some x0) (hr : rd i x0.1 = true) (hm : Marked sb (i * 5) (cur rd i s0.es (j + 1)) wr e w') :
    Nb rd tf te av ss N i (j + 1) tb sb cap w' := by
  obtain ⟨_, hb, v', hv', hl, hn, hp⟩ := hm
  have hcb : ∀ {a : Addr} {u : Value}, wr.cell? a = some u → a ≠ ⟨sb, i * 5 + 4, none⟩ → w'.cell? a = some u := fun hc hne => by rw [hb.cell _ (cell_lt hc) hne]; exact hc
  have hne' : ∀ n, (⟨tb, n, none⟩ : Addr) ≠ ⟨sb, i * 5 + 4, none⟩ := fun n e => h.ne (by injection e)
  refine ⟨h.htb, h.hsb, h.ne, by obtain ⟨ca, ta, ho⟩ := h.obj; exact ⟨ca, ta, by rw [hb.obj tb h.obj.lt h.ne]; exact ho⟩, hcb h.c0 (hne' _), hcb h.c1 (hne' _), hcb h.c2 (hne' _), hcb h.c3 (hne' _), h.hcap, h.hmax, fun k s hk => ?_⟩
  obtain ⟨⟨a0, a1, a2, a3⟩, f, v, hv, hs⟩ := h.slots k s hk
  refine ⟨⟨hcb a0 ?_, hcb a1 ?_, hcb a2 ?_, hcb a3 ?_⟩, ?_, ?_⟩
  · intro e; injection e with _ e; omega
  · intro e; injection e with _ e; omega
  · intro e; injection e with _ e; omega
  · intro e; injection e with _ e; omega
  · rw [hb.frozen _ (cell_lt hv)]; exact f
  · by_cases hki : k = i
    · subst hki
      obtain rfl : s = s0 := by rw [hi] at hk; exact (Option.some.inj hk).symm
      refine ⟨v', hv', ?_⟩
      rw [done_self]
      refine ⟨hl, fun p n c e _ => ?_, fun hq => ?_, fun _ => hn⟩
      · have := hp p n c e
        have h2 : sb < wr.heap.size := cell_lt hv
        omega
      · have := hq x0 (take_succ_new hj)
        rw [hr] at this
        simp at this
    · refine ⟨v, hcb hv ?_, ?_⟩
      · intro e; injection e with _ e; omega
      · rw [done_other hki (j := j)]
        exact ⟨hs.list.but hb hs.apart, hs.apart, hs.same, hs.nils⟩

theorem Nx.marked {s0 : SlotD} {x0 : ByteArray × Int} (h : Nb rd tf te av ss N i (j + 1) tb sb cap wr) (hi : ss[i]? = some s0) (hj : s0.es[j]? = some x0) (hr : rd i x0.1 = true) : Nx rd T tf te av ss N i (j + 1) (.pointer (some ⟨tb, 0, none⟩)) wr :=
  .inr ⟨tb, sb, cap, rfl, h, i, s0, x0, hi, by rw [done_self]; exact take_succ_new hj, hr⟩

/-- The call of MarkReady at the slot's list. -/
theorem Nb.call {s0 : SlotD} {xa : ByteArray} {xs : Int} (h : Nb rd tf te av ss N i j tb sb cap wr) (hi : ss[i]? = some s0) (hj : s0.es[j]? = some (xa, xs)) (hr : rd i xa = true) (ha : Asc s0.es) (hl : s0.es.length ≤ 1048576) :
    Calls Try.prog 34 #[.pointer (some ⟨sb, i * 5, none⟩), .string xa] wr (Marked sb (i * 5) (cur rd i s0.es (j + 1)) wr) := by
  obtain ⟨_, f, v, hv, hs⟩ := h.slots i s0 hi
  rw [done_self] at hs
  obtain ⟨h1, h2⟩ := cur_drop (rd := rd) (k := i) hj hr
  have hsub := cur_sub rd i s0.es j
  have := markReady_any sb (i * 5) v (cur rd i s0.es j) _ xa xs wr hv f hs.list (ha.sub hsub) h1 (Nat.le_trans hsub.length_le hl)
  rwa [h2] at this

theorem row_len (l : List SlotD) : ∀ r ∈ l.map SlotD.row, r.length = 5 := by
  intro r hr
  obtain ⟨x, _, rfl⟩ := List.mem_map.mp hr
  rfl

theorem row_one {w : World} {v : Value} {l : List SlotD} (h : SLs w v l) : ∀ u ∈ (l.map SlotD.row).flatten, u.oneCell' = true := by
  intro u hu
  obtain ⟨r, hr, hu⟩ := List.mem_flatten.mp hu
  obtain ⟨x, hx, rfl⟩ := List.mem_map.mp hr
  obtain ⟨_, hf, hn⟩ := h.2 x hx
  obtain ⟨_, _, hf, _⟩ := hf.opened
  obtain ⟨_, _, hn, _⟩ := hn.opened
  simp only [SlotD.row, List.mem_cons, List.not_mem_nil, or_false] at hu
  rcases hu with rfl | rfl | rfl | rfl | rfl
  · rfl
  · rfl
  · rfl
  · rw [hf]; rfl
  · rw [hn]; rfl

theorem heap_new (w : World) (o : Obj) : (w.alloc o).heap[w.heap.size]? = some o := by
  show (w.heap.push o)[w.heap.size]? = some o
  simp

/-- The new table, just made. -/
theorem Nb.make {w w3 : World} {sv : Value} {B cp : Nat} {sb : Nat} (hs : SLs w sv ss) (hN : N = w.heap.size) (hb : Below w.heap.size w w3) (hB : N ≤ B)
    (hown : w3.ownsRow B 60 5 (.slice (some ⟨sb, 0, none⟩) ss.length cp) ss.length (ss.map SlotD.row).flatten) (hsb : B ≤ sb) (hc : ss.length ≤ cp) (hm : cp ≤ maxLen)
    (hq : ∀ k s, ss[k]? = some s → ∀ x ∈ s.es.take (doneAt i j k s), rd k x.1 = false) :
    Nb rd tf te av ss N i j w3.heap.size sb cp (w3.alloc (.cells #[tf, te, .slice (some ⟨sb, 0, none⟩) ss.length cp, av] 56 (0, 0))) := by
  have hsl : Sl 5 w3 (.slice (some ⟨sb, 0, none⟩) ss.length cp) (ss.map SlotD.row) := Sl.of_own (base := B) (e := 60) (by rw [List.length_map]; exact hown) (row_len ss)
  have hlt : sb < w3.heap.size := (hown.lt sb rfl).2
  have hal : Below w3.heap.size w3 (w3.alloc (.cells #[tf, te, .slice (some ⟨sb, 0, none⟩) ss.length cp, av] 56 (0, 0))) := (Below.refl _ _).alloc (Nat.le_refl _) _
  refine ⟨by rw [hN]; exact hb.size, by omega, by omega, ⟨_, 56, heap_new _ _⟩, by simp, by simp, by simp, by simp, hc, hm, fun k s hk => ?_⟩
  have hcell : ∀ m u, (SlotD.row s)[m]? = some u → (w3.alloc (.cells #[tf, te, .slice (some ⟨sb, 0, none⟩) ss.length cp, av] 56 (0, 0))).cell? ⟨sb, k * 5 + m, none⟩ = some u := by
    intro m u hu
    refine cell_later hal ?_
    have := hsl.cells (by omega) (row_len ss) _ _ (flat_at (row_len ss) (i := k) (by rw [List.getElem?_map, hk]; rfl) hu)
    rwa [Addr.add_lit, Nat.zero_add] at this
  have hn := (hs.2 s (List.mem_of_getElem? hk)).2.2
  refine ⟨⟨hcell 0 _ rfl, hcell 1 _ rfl, hcell 2 _ rfl, hcell 3 _ rfl⟩, ?_, s.nr, hcell 4 _ rfl, ?_⟩
  · exact frozen_later hal hlt (hown.frozenAt _)
  · refine ⟨?_, ?_, fun _ => rfl, ?_⟩
    · rw [cur_quiet (hq k s hk)]
      exact (hn.later hb).later hal
    · intro p n c e h0
      obtain ⟨p', c', e', _, _, _, H⟩ := hn.opened
      rw [e] at e'
      injection e' with e1 e2 e3
      subst e2
      obtain ⟨x, y, hx⟩ := get_nr h0
      obtain ⟨b, off, e4, hcl, _⟩ := H.out 0 _ hx
      have := cell_lt hcl
      rw [e4] at e1
      injection e1 with e1
      rw [e1]
      show b ≠ sb
      have h5 : b < w.heap.size := this
      omega
    · rintro ⟨x, hx, hx1⟩
      rw [hq k s hk x hx] at hx1
      simp at hx1

end

end Go.Proofs.Qxb6609165a
