/-
  What Readied answers, in plain words.
-/
import Derived.Test.Qxb6609165aTable
namespace Go.Proofs.Qxb6609165a
open Go.RowKit

/-- Slot k before and behind Readied. -/
structure RelS (rd : Nat → ByteArray → Bool) (k : Nat) (s s' : SlotD) : Prop where
  id : s'.id = s.id
  leader : s'.leader = s.leader
  lepoch : s'.lepoch = s.lepoch
  fol : s'.fol = s.fol
  fs : s'.fs = s.fs
  es : s'.es = stay rd k s.es
  same : (∀ x ∈ s.es, rd k x.1 = false) → s'.nr = s.nr
  nils : (∃ x ∈ s.es, rd k x.1 = true) → (s'.nr = .slice none 0 0 ↔ stay rd k s.es = [])

def Rel (rd : Nat → ByteArray → Bool) (ss ss' : List SlotD) : Prop := ss'.length = ss.length ∧ ∀ (k : Nat) s s', ss[k]? = some s → ss'[k]? = some s' → RelS rd k s s'

/-- No entry is ready. -/
def Quiet (rd : Nat → ByteArray → Bool) (ss : List SlotD) : Prop := ∀ (k : Nat) s, ss[k]? = some s → ∀ x ∈ s.es, rd k x.1 = false

/-- A table in the world. -/
structure Tab (w : World) (T : Nat) (fm ep : Int) (ap : Option Addr) (an ac : Nat) (sv : Value) (ss : List SlotD) : Prop where
  obj : Plainly w T
  c0 : w.cell? ⟨T, 0, none⟩ = some (.int .i64 fm)
  c1 : w.cell? ⟨T, 1, none⟩ = some (.int .u64 ep)
  c2 : w.cell? ⟨T, 2, none⟩ = some sv
  c3 : w.cell? ⟨T, 3, none⟩ = some (.slice ap an ac)
  slots : SLs w sv ss

theorem Tab.later {w w' : World} {T : Nat} {fm ep : Int} {ap : Option Addr} {an ac : Nat} {sv : Value} {ss : List SlotD} (h : Tab w T fm ep ap an ac sv ss) (hb : Below w.heap.size w w') : Tab w' T fm ep ap an ac sv ss :=
  ⟨h.obj.later hb, cell_later hb h.c0, cell_later hb h.c1, cell_later hb h.c2, cell_later hb h.c3, h.slots.later hb⟩

/-- What Readied answers. -/
def Readied (rd : Nat → ByteArray → Bool) (T : Nat) (fm ep : Int) (ap : Option Addr) (an ac : Nat) (ss : List SlotD) (w : World) (e : Ending) (w' : World) : Prop :=
  ∃ T' sv' ss', e = .returned (.pointer (some ⟨T', 0, none⟩)) ∧ Below w.heap.size w w' ∧ Tab w' T' fm ep ap an ac sv' ss' ∧ Rel rd ss ss' ∧ (T' = T ↔ Quiet rd ss)

theorem RelS.quiet {rd : Nat → ByteArray → Bool} {k : Nat} {s : SlotD} (h : ∀ x ∈ s.es, rd k x.1 = false) : RelS rd k s s :=
  ⟨rfl, rfl, rfl, rfl, rfl, (stay_quiet h).symm, fun _ => rfl, fun ⟨x, hx, hx1⟩ => by rw [h x hx] at hx1; simp at hx1⟩

theorem done_all {ss : List SlotD} {k : Nat} {s : SlotD} (hk : ss[k]? = some s) : doneAt ss.length 0 k s = s.es.length := by
  unfold doneAt
  rw [if_pos (List.getElem?_eq_some_iff.mp hk).1]

/-- The new table's slots, read off. -/
theorem Nb.read {rd : Nat → ByteArray → Bool} {tf te av : Value} {ss : List SlotD} {N tb sb cap : Nat} {w wr : World} {sv : Value} (h : Nb rd tf te av ss N ss.length 0 tb sb cap wr) (hs : SLs w sv ss) (hb : Below w.heap.size w wr) :
    ∃ ss', SLs wr (.slice (some ⟨sb, 0, none⟩) ss.length cap) ss' ∧ Rel rd ss ss' := by
  have key : ∀ n, n ≤ ss.length → ∃ l : List SlotD, l.length = n ∧ ∀ (k : Nat) s', l[k]? = some s' → ∃ s, ss[k]? = some s ∧ RelS rd k s s' ∧ wr.cell? ⟨sb, k * 5 + 4, none⟩ = some s'.nr ∧ NRL wr s'.nr s'.es := by
    intro n
    induction n with
    | zero => exact fun _ => ⟨[], rfl, fun k s' hk => by simp at hk⟩
    | succ n ih =>
      intro hn
      obtain ⟨l, hl, hk⟩ := ih (by omega)
      obtain ⟨s, hsn⟩ : ∃ s, ss[n]? = some s := ⟨_, List.getElem?_eq_getElem (by omega)⟩
      obtain ⟨_, _, v, hv, hst⟩ := h.slots n s hsn
      rw [done_all hsn] at hst
      have hcur := cur_all rd n s.es
      refine ⟨l ++ [{ s with nr := v, es := stay rd n s.es }], by simp [hl], fun k s' hs' => ?_⟩
      by_cases hkl : k < l.length
      · rw [List.getElem?_append_left hkl] at hs'
        exact hk k s' hs'
      · rw [List.getElem?_append_right (by omega)] at hs'
        have hk0 : k - l.length = 0 := by
          have := (List.getElem?_eq_some_iff.mp hs').1
          simp at this
          omega
        rw [hk0] at hs'
        obtain rfl : { s with nr := v, es := stay rd n s.es } = s' := by simpa using hs'
        obtain rfl : k = n := by omega
        refine ⟨s, hsn, ⟨rfl, rfl, rfl, rfl, rfl, rfl, fun hq => hst.same (by rw [List.take_length]; exact hq), fun hx => ?_⟩, hv, by rw [← hcur]; exact hst.list⟩
        rw [← hcur]
        exact hst.nils (by rw [List.take_length]; exact hx)
  obtain ⟨l, hl, hk⟩ := key ss.length (Nat.le_refl _)
  refine ⟨l, ⟨?_, fun s' hs' => ?_⟩, hl, fun k s s' hs hs' => ?_⟩
  · refine ⟨some ⟨sb, 0, none⟩, cap, by rw [List.length_map, hl], by rw [List.length_map, hl]; exact h.hcap, h.hmax, fun e => by simp at e, fun _ => ⟨sb, 0, rfl, fun k r hr m x hx => ?_⟩⟩
    rw [List.getElem?_map] at hr
    obtain ⟨s', hs', rfl⟩ := Option.map_eq_some_iff.mp hr
    obtain ⟨s, hs, hrel, hc4, _⟩ := hk k s' hs'
    obtain ⟨⟨a0, a1, a2, a3⟩, _⟩ := h.slots k s hs
    rw [Nat.zero_add]
    match m, hx with
    | 0, hx => obtain rfl := Option.some.inj hx; rw [hrel.id]; exact a0
    | 1, hx => obtain rfl := Option.some.inj hx; rw [hrel.leader]; exact a1
    | 2, hx => obtain rfl := Option.some.inj hx; rw [hrel.lepoch]; exact a2
    | 3, hx => obtain rfl := Option.some.inj hx; rw [hrel.fol]; exact a3
    | 4, hx => obtain rfl := Option.some.inj hx; exact hc4
    | m + 5, hx => simp [SlotD.row] at hx
  · obtain ⟨k, hk'⟩ := List.mem_iff_getElem?.mp hs'
    obtain ⟨s, hs0, hrel, _, hn⟩ := hk k s' hk'
    have hold := hs.2 s (List.mem_of_getElem? hs0)
    exact ⟨by rw [hrel.leader]; exact hold.1, by rw [hrel.fol, hrel.fs]; exact hold.2.1.later hb, hn⟩
  · obtain ⟨s0, hs0, hrel, _⟩ := hk k s' hs'
    obtain rfl : s = s0 := Option.some.inj (hs.symm.trans hs0)
    exact hrel

theorem ready_call (fid : Nat) (caps : Array Value) (rd : Nat → ByteArray → Bool) (T : Nat) (fm ep : Int) (sv : Value) (ap : Option Addr) (an ac : Nat) (ss : List SlotD) (w : World) (ht : Tab w T fm ep ap an ac sv ss)
    (hasc : ∀ s ∈ ss, Asc s.es) (hn : ss.length ≤ 16384) (hes : ∀ s ∈ ss, s.es.length ≤ 1048576) (hcf : ∀ args W, (callFunc fid args).run Try.prog W = .ok (.enter fid args) W)
    (Hcl : ∀ wr, Below w.heap.size w wr → ∀ (i : Nat) (a : ByteArray) (s : Int), Calls Try.prog fid (#[.int .i64 i, .agg #[.string a, .int .u64 s]] ++ caps) wr (Gives (.bool (rd i a)) wr)) :
    Calls Try.prog 17 #[.pointer (some ⟨T, 0, none⟩), .func (.func fid) #[] caps] w (Readied rd T fm ep ap an ac ss w) := by
  refine (readied_any fid caps rd T fm ep sv ap an ac ss w ht.c0 ht.c1 ht.c2 ht.c3 ht.obj ht.slots hasc hn hes hcf Hcl).mono ?_
  rintro e w' ⟨nv, rfl, hb, ⟨rfl, hq⟩ | ⟨tb, sb, cap, rfl, hnb, k, s, x, hk, hx, hr⟩⟩
  · have hq' : Quiet rd ss := fun k s hk x hx => hq k s hk x (by rw [done_all hk, List.take_length]; exact hx)
    exact ⟨T, sv, ss, rfl, hb, ht.later hb, ⟨rfl, fun k s s' hs hs' => by
      obtain rfl : s = s' := Option.some.inj (hs.symm.trans hs')
      exact RelS.quiet (hq' k s hs)⟩, fun _ => hq', fun _ => rfl⟩
  · obtain ⟨ss', hsl, hrel⟩ := hnb.read ht.slots hb
    refine ⟨tb, _, ss', rfl, hb, ⟨hnb.obj, hnb.c0, hnb.c1, hnb.c2, hnb.c3, hsl⟩, hrel, fun e => ?_, fun hq => ?_⟩
    · have h1 := hnb.htb
      have h2 := ht.obj.lt
      omega
    · rw [done_all hk, List.take_length] at hx
      rw [hq k s hk x hx] at hr
      simp at hr

end Go.Proofs.Qxb6609165a
