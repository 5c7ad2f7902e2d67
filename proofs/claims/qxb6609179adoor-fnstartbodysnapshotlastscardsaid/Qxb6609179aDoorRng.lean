/-
  'for k, v := range m', over a map as a plain function.
-/
import Derived.Test.Qxb6609179aDoorMaps
namespace Go.Proofs.Qxb6609179aDoor
open Go.RowKit Go.MapKept
open Go.ChangeMaps (setBlock)

/-- A slice's length. -/
def sliceLen : Value → Nat
  | .slice _ n _ => n
  | _ => 0

/-- The lengths of the entries' slices that are still to come. -/
def leftSum (l : List MapEntry) (seen : Array Nat) : Nat := ((l.filter fun e => !seen.contains e.born).map fun e => sliceLen e.val).sum

/-- A range over the map in block b under way, its iterator in block r. -/
def Ranging (w : World) (b r : Nat) (f : ByteArray → Option Value) (n : Nat) (done : ByteArray → Prop) (cnt tot : Nat) : Prop :=
  ∃ es clock since seen c0, w.heap[b]? = some (.map es clock) ∧ es.size = n ∧ (∀ x ∈ es.toList, ∃ s, x.key = .string s ∧ f s = some x.val) ∧ (∀ s v, f s = some v → ∃ x ∈ es.toList, x.key = .string s) ∧ Stamped es clock ∧
    w.heap[r]? = some (.mapIter (some b) since seen c0) ∧ (∀ x ∈ es.toList, x.born < since) ∧ (leftOf es seen).size = cnt ∧ leftSum es.toList seen = tot ∧ since ≤ c0 ∧ since ≤ clock ∧
    ∀ x ∈ es.toList, ∀ s, x.key = .string s → (done s ↔ seen.contains x.born = true)

theorem Ranging.map {w : World} {b r n cnt tot : Nat} {f : ByteArray → Option Value} {done : ByteArray → Prop} (h : Ranging w b r f n done cnt tot) : MapIs w b f n := by
  obtain ⟨es, clock, since, seen, c0, h1, h2, h3, h4, h5, _⟩ := h
  exact ⟨es, clock, h1, h2, h3, h4, h5⟩

theorem Ranging.ne {w : World} {b r n cnt tot : Nat} {f : ByteArray → Option Value} {done : ByteArray → Prop} (h : Ranging w b r f n done cnt tot) : r ≠ b := by
  obtain ⟨es, clock, since, seen, c0, h1, _, _, _, _, h6, _⟩ := h
  intro e
  rw [e, h1] at h6
  cases h6

theorem Ranging.lt {w : World} {b r n cnt tot : Nat} {f : ByteArray → Option Value} {done : ByteArray → Prop} (h : Ranging w b r f n done cnt tot) : r < w.heap.size := by
  obtain ⟨es, clock, since, seen, c0, h1, _, _, _, _, h6, _⟩ := h
  exact (Array.getElem?_eq_some_iff.1 h6).1

theorem Ranging.same {w w' : World} {b r n cnt tot : Nat} {f : ByteArray → Option Value} {done : ByteArray → Prop} (h : Ranging w b r f n done cnt tot) (hb : w'.heap[b]? = w.heap[b]?) (hr : w'.heap[r]? = w.heap[r]?) : Ranging w' b r f n done cnt tot := by
  obtain ⟨es, clock, since, seen, c0, h1, h2, h3, h4, h5, h6, h7⟩ := h
  exact ⟨es, clock, since, seen, c0, hb.trans h1, h2, h3, h4, h5, hr.trans h6, h7⟩

/-- The lengths of all the slices that a map holds. -/
def mapTot (w : World) (b : Nat) : Nat :=
  match w.heap[b]? with
  | some (.map es _) => leftSum es.toList #[]
  | _ => 0

theorem MapIs.range {P : Program} {w : World} {b n : Nat} {f : ByteArray → Option Value} {t k e : TypeId} (h : MapIs w b f n) (ht : P.underlying t = some (.map k e)) :
    ∃ w', (Instr.range t (.map (some b))).run P w = .ok (.pointer (some ⟨w.heap.size, 0, none⟩)) w' ∧ Ranging w' b w.heap.size f n (fun _ => False) n (mapTot w b) ∧ Below w.heap.size w w' ∧ w'.heap.size = w.heap.size + 1 := by
  have hlt := h.lt
  obtain ⟨es, clock, hb, hn, hks, hal, hst⟩ := h
  have hmt : mapTot w b = leftSum es.toList #[] := by simp only [mapTot, hb]
  rw [hmt]
  refine ⟨_, run_range_map w t k e b es clock ht hb, ⟨es, clock, clock, #[], clock, ((heap_alloc w _).2 b hlt).trans hb, hn, hks, hal, hst, (heap_alloc w _).1, hst.1, ?_, rfl, Nat.le_refl _, Nat.le_refl _, ?_⟩, (Below.refl _ _).alloc (Nat.le_refl _) _, by simp⟩
  · rw [← hn]
    simp [leftOf]
  · intro x _ s _
    simp

theorem sum_left {l : List MapEntry} (hn : (l.map (·.born)).Nodup) {seen : Array Nat} {e : MapEntry} (he : e ∈ l) (hs : seen.contains e.born = false) : leftSum l seen = sliceLen e.val + leftSum l (seen.push e.born) := by
  have key : ∀ l : List MapEntry, (l.map (·.born)).Nodup → (e ∈ l → leftSum l seen = sliceLen e.val + leftSum l (seen.push e.born)) ∧ ((∀ x ∈ l, x.born ≠ e.born) → leftSum l seen = leftSum l (seen.push e.born)) := by
    intro l
    induction l with
    | nil => exact fun _ => ⟨fun h => by simp at h, fun _ => rfl⟩
    | cons a l ih =>
      intro hn
      rw [List.map_cons, List.nodup_cons] at hn
      obtain ⟨ih1, ih2⟩ := ih hn.2
      have hcp : ∀ x : MapEntry, (seen.push e.born).contains x.born = (seen.contains x.born || x.born == e.born) := fun x => contains_push _ _ _
      have hcons : ∀ sn : Array Nat, leftSum (a :: l) sn = (if sn.contains a.born then 0 else sliceLen a.val) + leftSum l sn := fun sn => by
        unfold leftSum
        rw [List.filter_cons]
        cases hc : sn.contains a.born <;> simp
      rw [hcons, hcons, hcp]
      constructor
      · intro hm
        rcases List.mem_cons.mp hm with rfl | hm
        · rw [hs, ih2 (fun x hx hxe => hn.1 (List.mem_map.mpr ⟨x, hx, hxe⟩))]
          simp
        · have hne : a.born ≠ e.born := fun h => hn.1 (List.mem_map.mpr ⟨e, hm, h.symm⟩)
          rw [ih1 hm]
          have : (a.born == e.born) = false := by simpa using hne
          rw [this, Bool.or_false]
          omega
      · intro hx
        have hne : a.born ≠ e.born := hx a (by simp)
        have : (a.born == e.born) = false := by simpa using hne
        rw [ih2 (fun x h => hx x (by simp [h])), this, Bool.or_false]
  exact (key l hn).1 he

theorem sum_none {l : List MapEntry} {seen : Array Nat} (h : ∀ x ∈ l, seen.contains x.born = true) : leftSum l seen = 0 := by
  unfold leftSum
  have : (l.filter fun e => !seen.contains e.born) = [] := List.filter_eq_nil_iff.mpr fun x hx => by rw [h x hx]; simp
  rw [this]
  rfl

theorem sum_le {l : List MapEntry} {seen : Array Nat} {L : Nat} (h : ∀ x ∈ l, sliceLen x.val ≤ L) : leftSum l seen ≤ l.length * L := by
  induction l with
  | nil => simp [leftSum]
  | cons a l ih =>
    have ih' := ih fun x hx => h x (by simp [hx])
    have ha := h a (by simp)
    have hcons : leftSum (a :: l) seen = (if seen.contains a.born then 0 else sliceLen a.val) + leftSum l seen := by
      unfold leftSum
      rw [List.filter_cons]
      cases hc : seen.contains a.born <;> simp
    rw [hcons, List.length_cons, Nat.succ_mul]
    split <;> omega

theorem Ranging.tot_le {w : World} {b r n cnt tot L : Nat} {f : ByteArray → Option Value} {done : ByteArray → Prop} (h : Ranging w b r f n done cnt tot) (hL : ∀ s v, f s = some v → sliceLen v ≤ L) : tot ≤ n * L := by
  obtain ⟨es, clock, since, seen, c0, h1, h2, h3, h4, h5, h6, h7, h8, rfl, _⟩ := h
  have := sum_le (l := es.toList) (seen := seen) (L := L) fun x hx => by
    obtain ⟨s, _, hs⟩ := h3 x hx
    exact hL s _ hs
  rw [← h2]
  simpa using this

/-- The step. -/
theorem Ranging.next {P : Program} {w : World} {b r n cnt tot : Nat} {f : ByteArray → Option Value} {done : ByteArray → Prop} (h : Ranging w b r f n done cnt tot) (ty : TypeId) :
    (tot = 0 ∧ (∀ s, (f s).isSome = true → done s) ∧ (Instr.next (.pointer (some ⟨r, 0, none⟩)) false ty).run P w = .ok (.tuple #[.bool false]) w) ∨
    ∃ s v w' cnt' tot', f s = some v ∧ ¬ done s ∧ (Instr.next (.pointer (some ⟨r, 0, none⟩)) false ty).run P w = .ok (.tuple #[.bool true, .string s, v]) w' ∧ Ranging w' b r f n (fun x => done x ∨ x = s) cnt' tot' ∧ cnt' < cnt ∧ tot = sliceLen v + tot' ∧ Below r w w' ∧ (∀ i, i ≠ r → w'.heap[i]? = w.heap[i]?) ∧
      (Instr.entry (.pointer (some ⟨r, 0, none⟩))).run P w' = .ok (.tuple #[.string s, v]) w' := by
  have hne := h.ne
  obtain ⟨es, clock, since, seen, c0, hb, hn, hks, hal, hst, hr, hold, rfl, rfl, hsc, hsk, hd⟩ := h
  rcases run_next_at (P := P) w ty r b since c0 seen es clock hr hb hold hsc with ⟨h0, hrun⟩ | ⟨e, he, w1, hal1, hrun⟩
  · have hall := all_seen es seen h0
    refine .inl ⟨sum_none hall, fun s hs => ?_, hrun⟩
    obtain ⟨v, hv⟩ := Option.isSome_iff_exists.mp hs
    obtain ⟨x, hx, hxk⟩ := hal s v hv
    exact (hd x hx s hxk).mpr (hall x hx)
  · obtain ⟨hem, hes⟩ := mem_left he
    obtain ⟨s, hsk', hfs⟩ := hks e hem
    have hr1 : w1.heap[r]? = some (.mapIter (some b) since seen c0) := by rcases hal1 with rfl | rfl <;> exact hr
    have hb1 : w1.heap[b]? = some (.map es clock) := by rcases hal1 with rfl | rfl <;> exact hb
    have hset := heap_set (o' := .mapIter (some b) since (seen.push e.born) clock) hr1
    have hb' : (setBlock w1 r (.mapIter (some b) since (seen.push e.born) clock)).heap[b]? = some (.map es clock) := (hset.2 b (fun e1 => hne e1.symm)).trans hb1
    have hoth : ∀ i, i ≠ r → (setBlock w1 r (.mapIter (some b) since (seen.push e.born) clock)).heap[i]? = w.heap[i]? := fun i hi => by
      refine (hset.2 i hi).trans ?_
      rcases hal1 with rfl | rfl <;> rfl
    have hent := run_entry_at (P := P) _ r b since seen es clock e hset.1 hb' hem ((stamped_iff es clock).1 hst).2.1
    rw [hsk'] at hrun hent
    refine .inr ⟨s, e.val, _, _, _, hfs, fun hds => ?_, hrun, ⟨es, clock, since, seen.push e.born, clock, hb', hn, hks, hal, hst, hset.1, hold, rfl, rfl, hsk, hsk, fun x hx s' hs' => ?_⟩, left_shrinks es seen e he, sum_left hst.2.1 hem hes, ?_, hoth, hent⟩
    · have := (hd e hem s hsk').mp hds
      rw [hes] at this
      cases this
    · rw [contains_push]
      constructor
      · rintro (h1 | rfl)
        · rw [(hd x hx s' hs').mp h1]; simp
        · obtain rfl := entry_eq_of_key ((stamped_iff es clock).1 hst).2.2 hx hem (by rw [hs', hsk'])
          simp
      · intro h1
        rcases Bool.or_eq_true _ _ ▸ h1 with h1 | h1
        · exact .inl ((hd x hx s' hs').mpr h1)
        · right
          obtain rfl := born_inj hst.2.1 hx hem (by simpa using h1)
          rw [hsk'] at hs'
          injection hs' with hs'
          exact hs'.symm
    · refine ⟨?_, ?_, ?_, ?_, fun i hi => hoth i (by omega)⟩
      · rcases hal1 with rfl | rfl <;> rfl
      · rcases hal1 with rfl | rfl <;> rfl
      · rcases hal1 with rfl | rfl <;> rfl
      · rcases hal1 with rfl | rfl <;> simp [setBlock]

end Go.Proofs.Qxb6609179aDoor
