/-
  Two rounds as one: the plain law.
-/
import Derived.Test.Qxb6609165aRel
import Derived.Test.Qxb6609165aBytes
namespace Go.Proofs.Qxb6609165a
open Go.RowKit

/-- Ready by a list. -/
def rdOf (l : List (Int × ByteArray)) (i : Nat) (a : ByteArray) : Bool := isReady l i a
/-- Ready by either. -/
def rdOr (a b : List (Int × ByteArray)) (i : Nat) (x : ByteArray) : Bool := isReady a i x || isReady b i x

theorem stay_two (a b : List (Int × ByteArray)) (k : Nat) (es : List (ByteArray × Int)) : stay (rdOf b) k (stay (rdOf a) k es) = stay (rdOr a b) k es := by
  unfold stay rdOf rdOr
  rw [List.filter_filter]
  congr 1
  funext x
  cases isReady a k x.1 <;> cases isReady b k x.1 <;> rfl

theorem stay_mem {rd : Nat → ByteArray → Bool} {k : Nat} {es : List (ByteArray × Int)} {x : ByteArray × Int} : x ∈ stay rd k es ↔ x ∈ es ∧ rd k x.1 = false := by
  unfold stay
  rw [List.mem_filter]
  simp

theorem ready_or (rd : Nat → ByteArray → Bool) (k : Nat) (es : List (ByteArray × Int)) : (∀ x ∈ es, rd k x.1 = false) ∨ ∃ x ∈ es, rd k x.1 = true := by
  by_cases h : ∃ x ∈ es, rd k x.1 = true
  · exact .inr h
  · refine .inl fun x hx => ?_
    cases hr : rd k x.1
    · rfl
    · exact absurd ⟨x, hx, hr⟩ h

/-- One slot: two rounds as one. -/
theorem two_slot {a b : List (Int × ByteArray)} {k : Nat} {s0 s1 s2 s3 : SlotD} (h1 : RelS (rdOf a) k s0 s1) (h2 : RelS (rdOf b) k s1 s2) (h3 : RelS (rdOr a b) k s0 s3) :
    s2.es = stay (rdOr a b) k s0.es ∧ s3.es = stay (rdOr a b) k s0.es ∧ (s2.nr = .slice none 0 0 ↔ s3.nr = .slice none 0 0) := by
  have he : s2.es = stay (rdOr a b) k s0.es := by rw [h2.es, h1.es, stay_two]
  refine ⟨he, h3.es, ?_⟩
  rcases ready_or (rdOr a b) k s0.es with hq | hx
  · have ha : ∀ x ∈ s0.es, rdOf a k x.1 = false := fun x hx => by have := hq x hx; unfold rdOr at this; unfold rdOf; cases h : isReady a k x.1 <;> simp_all
    have hb : ∀ x ∈ s0.es, rdOf b k x.1 = false := fun x hx => by have := hq x hx; unfold rdOr at this; unfold rdOf; cases h : isReady b k x.1 <;> simp_all
    have e1 : s1.es = s0.es := by rw [h1.es, stay_quiet ha]
    rw [h2.same (by rw [e1]; exact hb), h1.same ha, h3.same hq]
  · rw [h3.nils hx]
    rcases ready_or (rdOf b) k s1.es with hqb | hxb
    · rw [h2.same hqb]
      have hes : stay (rdOr a b) k s0.es = stay (rdOf a) k s0.es := by rw [← stay_two, ← h1.es, stay_quiet hqb]
      rw [hes]
      apply h1.nils
      obtain ⟨x, hx, hr⟩ := hx
      refine ⟨x, hx, ?_⟩
      cases hra : rdOf a k x.1
      · have : x ∈ s1.es := by rw [h1.es]; exact stay_mem.mpr ⟨hx, hra⟩
        have h5 := hqb x this
        unfold rdOr at hr
        unfold rdOf at hra h5
        rw [hra, h5] at hr
        simp at hr
      · rfl
    · rw [h2.nils hxb, h1.es, stay_two]

/-- The slots of two tables agree, and are those that stay. -/
def Agree (rd : Nat → ByteArray → Bool) (ss s2 s3 : List SlotD) : Prop :=
  s2.length = ss.length ∧ s3.length = ss.length ∧ ∀ (k : Nat) s x y, ss[k]? = some s → s2[k]? = some x → s3[k]? = some y → x.es = stay rd k s.es ∧ y.es = stay rd k s.es ∧ (x.nr = .slice none 0 0 ↔ y.nr = .slice none 0 0)

theorem agree_two {a b : List (Int × ByteArray)} {ss t0 t1 t2 t3 : List SlotD} (hc : Copies ss t0) (h1 : Rel (rdOf a) t0 t1) (h2 : Rel (rdOf b) t1 t2) (h3 : Rel (rdOr a b) t0 t3) : Agree (rdOr a b) ss t2 t3 := by
  refine ⟨by rw [h2.1, h1.1, hc.1], by rw [h3.1, hc.1], fun k s x y hs hx hy => ?_⟩
  have hk := (List.getElem?_eq_some_iff.mp hs).1
  obtain ⟨s0, hs0⟩ : ∃ s0, t0[k]? = some s0 := ⟨_, List.getElem?_eq_getElem (by rw [hc.1]; exact hk)⟩
  obtain ⟨s1, hs1⟩ : ∃ s1, t1[k]? = some s1 := ⟨_, List.getElem?_eq_getElem (by rw [h1.1, hc.1]; exact hk)⟩
  have := two_slot (h1.2 k s0 s1 hs0 hs1) (h2.2 k s1 x hs1 hx) (h3.2 k s0 y hs0 hy)
  rw [(hc.2 k s s0 hs hs0).es] at this
  exact this

/-- Entries of the first slots that are ready. -/
def namedN (rd : Nat → ByteArray → Bool) (ss : List SlotD) : Nat → Nat
  | 0 => 0
  | i + 1 => namedN rd ss i + (match ss[i]? with | some s => (s.es.filter fun x => rd i x.1).length | none => 0)

/-- Entries of the first slots that stay. -/
def leftN (rd : Nat → ByteArray → Bool) (ss : List SlotD) : Nat → Nat
  | 0 => 0
  | i + 1 => leftN rd ss i + (match ss[i]? with | some s => (stay rd i s.es).length | none => 0)

theorem namedN_succ {rd : Nat → ByteArray → Bool} {ss : List SlotD} {i : Nat} {s : SlotD} (h : ss[i]? = some s) : namedN rd ss (i + 1) = namedN rd ss i + (s.es.filter fun x => rd i x.1).length := by
  simp only [namedN, h]
theorem leftN_succ {rd : Nat → ByteArray → Bool} {ss : List SlotD} {i : Nat} {s : SlotD} (h : ss[i]? = some s) : leftN rd ss (i + 1) = leftN rd ss i + (stay rd i s.es).length := by
  simp only [leftN, h]

theorem split_len (rd : Nat → ByteArray → Bool) (i : Nat) (es : List (ByteArray × Int)) : (stay rd i es).length + (es.filter fun x => rd i x.1).length = es.length := by
  unfold stay
  induction es with
  | nil => rfl
  | cons x l ih =>
    cases h : rd i x.1 <;> simp only [List.filter_cons, h, List.length_cons, Bool.not_true, Bool.not_false, if_true, if_false, Bool.false_eq_true] <;> omega

theorem left_named (rd : Nat → ByteArray → Bool) (ss : List SlotD) : ∀ i, i ≤ ss.length → leftN rd ss i + namedN rd ss i = entries (ss.take i)
  | 0, _ => by simp [leftN, namedN, entries]
  | i + 1, h => by
    obtain ⟨s, hs⟩ : ∃ s, ss[i]? = some s := ⟨_, List.getElem?_eq_getElem (by omega)⟩
    rw [leftN_succ hs, namedN_succ hs, entries_take_succ hs, ← left_named rd ss i (by omega), ← split_len rd i s.es]
    omega

theorem entries_take_le (ss : List SlotD) (i : Nat) : entries (ss.take i) ≤ entries ss := by
  have h : entries (ss.take i) + entries (ss.drop i) = entries ss := by
    unfold entries
    rw [← List.sum_append, ← List.map_append, List.take_append_drop]
  omega

theorem named_mono (rd : Nat → ByteArray → Bool) (ss : List SlotD) : ∀ i j, i ≤ j → namedN rd ss i ≤ namedN rd ss j
  | i, 0, h => by obtain rfl : i = 0 := by omega
                  exact Nat.le_refl _
  | i, j + 1, h => by
    by_cases hij : i = j + 1
    · rw [hij]; exact Nat.le_refl _
    · exact Nat.le_trans (named_mono rd ss i j (by omega)) (by rw [namedN]; omega)

theorem named_zero {rd : Nat → ByteArray → Bool} {ss : List SlotD} : namedN rd ss ss.length = 0 ↔ Quiet rd ss := by
  constructor
  · intro h k s hs x hx
    have hk := (List.getElem?_eq_some_iff.mp hs).1
    have h1 := named_mono rd ss (k + 1) ss.length (by omega)
    rw [namedN_succ hs] at h1
    have h2 : (s.es.filter fun x => rd k x.1).length = 0 := by omega
    cases hr : rd k x.1
    · rfl
    · have : x ∈ s.es.filter fun x => rd k x.1 := List.mem_filter.mpr ⟨hx, hr⟩
      rw [List.length_eq_zero_iff.mp h2] at this
      simp at this
  · intro h
    have key : ∀ i, i ≤ ss.length → namedN rd ss i = 0 := by
      intro i
      induction i with
      | zero => intro _; rfl
      | succ i ih =>
        intro hi
        obtain ⟨s, hs⟩ : ∃ s, ss[i]? = some s := ⟨_, List.getElem?_eq_getElem (by omega)⟩
        rw [namedN_succ hs, ih (by omega)]
        have : (s.es.filter fun x => rd i x.1) = [] := List.filter_eq_nil_iff.mpr fun x hx => by rw [h i s hs x hx]; simp
        rw [this]
        rfl
    exact key _ (Nat.le_refl _)

theorem quiet_copies {rd : Nat → ByteArray → Bool} {ss t : List SlotD} (h : Copies ss t) : Quiet rd t ↔ Quiet rd ss := by
  constructor
  · intro hq k s hs x hx
    obtain ⟨s', hs'⟩ : ∃ s', t[k]? = some s' := ⟨_, List.getElem?_eq_getElem (by rw [h.1]; exact (List.getElem?_eq_some_iff.mp hs).1)⟩
    exact hq k s' hs' x (by rw [(h.2 k s s' hs hs').es]; exact hx)
  · intro hq k s' hs' x hx
    obtain ⟨s, hs⟩ : ∃ s, ss[k]? = some s := ⟨_, List.getElem?_eq_getElem (by rw [← h.1]; exact (List.getElem?_eq_some_iff.mp hs').1)⟩
    exact hq k s hs x (by rw [← (h.2 k s s' hs hs').es]; exact hx)

theorem take_filter_succ {p : ByteArray × Int → Bool} {es : List (ByteArray × Int)} {j : Nat} {x : ByteArray × Int} (h : es[j]? = some x) : ((es.take (j + 1)).filter p).length = ((es.take j).filter p).length + (if p x then 1 else 0) := by
  rw [List.take_add_one, h, List.filter_append, List.length_append]
  cases hp : p x <;> simp [hp]

/-- Facts that pass from the slots to their copies, and to what Readied leaves. -/
theorem Copies.all {ss t : List SlotD} (h : Copies ss t) (ha : ∀ s ∈ ss, Asc s.es) (hl : ∀ s ∈ ss, s.es.length ≤ 1048576) : ∀ s ∈ t, Asc s.es ∧ s.es.length ≤ 1048576 := by
  intro s' hs'
  obtain ⟨k, hk⟩ := List.mem_iff_getElem?.mp hs'
  obtain ⟨s, hs⟩ : ∃ s, ss[k]? = some s := ⟨_, List.getElem?_eq_getElem (by rw [← h.1]; exact (List.getElem?_eq_some_iff.mp hk).1)⟩
  rw [(h.2 k s s' hs hk).es]
  exact ⟨ha s (List.mem_of_getElem? hs), hl s (List.mem_of_getElem? hs)⟩

theorem Rel.all {rd : Nat → ByteArray → Bool} {ss t : List SlotD} (h : Rel rd ss t) (ha : ∀ s ∈ ss, Asc s.es ∧ s.es.length ≤ 1048576) : ∀ s ∈ t, Asc s.es ∧ s.es.length ≤ 1048576 := by
  intro s' hs'
  obtain ⟨k, hk⟩ := List.mem_iff_getElem?.mp hs'
  obtain ⟨s, hs⟩ : ∃ s, ss[k]? = some s := ⟨_, List.getElem?_eq_getElem (by rw [← h.1]; exact (List.getElem?_eq_some_iff.mp hk).1)⟩
  have hsub : s'.es.Sublist s.es := by rw [(h.2 k s s' hs hk).es]; exact List.filter_sublist
  have := ha s (List.mem_of_getElem? hs)
  exact ⟨this.1.sub hsub, Nat.le_trans hsub.length_le this.2⟩

end Go.Proofs.Qxb6609165a
