/-
  Clone and Delete over entries; MarkReady.
-/
import Derived.Test.Qxb6609165aSearch
import Derived.Test.Qxb6609165aRow
import Derived.Deep.DeepAppendWide
import Derived.Deep.Onto
import Derived.Laws.OwnMore
import Derived.Deep.RegionLaw
import Derived.Lib.SliceRun
namespace Go.Proofs.Qxb6609165a
open Go.RowKit

theorem info49 : (Try.prog.info? 49).map (fun i => (i.zero, i.size, i.bytes)) = some (some (.agg #[.string ByteArray.empty, .int .u64 0]), 2, 24) := by kernel_rfl

theorem info60 : (Try.prog.info? 60).map (fun i => (i.zero, i.size, i.bytes)) = some (some (.agg #[.int .i64 0, .string ByteArray.empty, .int .u64 0, .slice none 0 0, .slice none 0 0]), 5, 80) := by kernel_rfl

theorem nil58 (w : World) (a : Option Addr) (n c : Nat) : (binOp .eql 58 (.slice a n c) (.slice none 0 0)).run Try.prog w = .ok (.bool a.isNone) w := Lib.run_eql_slice_nil w 58 49 a n c 0 0 Try.underlying58
theorem nil54 (w : World) (a : Option Addr) (n c : Nat) : (binOp .eql 54 (.slice a n c) (.slice none 0 0)).run Try.prog w = .ok (.bool a.isNone) w := Lib.run_eql_slice_nil w 54 60 a n c 0 0 Try.underlying54

/-- The call answers an own row of the rows l; what stood before it stands. -/
def OwnRes (e : TypeId) (sz : Nat) (l : List (List Value)) (w : World) (en : Ending) (w' : World) : Prop :=
  ∃ v', en = .returned v' ∧ Below w.heap.size w w' ∧ w'.ownsRow w.heap.size e sz v' l.length l.flatten

theorem size_alloc (w : World) (o : Obj) : w.heap.size ≤ (w.alloc o).heap.size := by show w.heap.size ≤ (w.heap.push _).size; simp

theorem below_own {w w1 w2 : World} {o : Obj} (h1 : w1 = w.alloc o) (h : w1.grownBy w2 none) : Below w.heap.size w w2 := by
  subst h1
  exact ((Below.refl _ _).alloc (Nat.le_refl _) o).grown h (size_alloc w o) (by simp)

set_option maxRecDepth 50000 in
set_option maxHeartbeats 1000000 in
theorem clone_any (v : Value) (l : List (List Value)) (w : World) (hv : Sl 2 w v l) (hr : ∀ r ∈ l, r.length = 2) (h1 : ∀ u ∈ l.flatten, u.oneCell' = true) (hc : 0 < l.length) (hcl : l.length ≤ 1048576) :
    Calls Try.prog 40 #[v] w (OwnRes 49 2 l w) := by
  obtain ⟨p, cap, rfl, hl, hcm, _, hp⟩ := id hv
  obtain ⟨b, off, rfl, _⟩ := hp hc
  have HC : Hid (∀ j u, l.flatten[j]? = some u → w.cell? ((⟨b, off, none⟩ : Addr).add j) = some u) := hv.cells (by omega) hr
  have HL : Hid (l.flatten.length = l.length * 2) := flat_len hr
  obtain ⟨i0, hi0, hz0, hz1, hz2⟩ := info_parts info49
  clear hp hv hr
  unfold maxLen at hcm
  have n58 := nil58
  have H1 : Hid (∀ u ∈ l.flatten, u.oneCell' = true) := h1
  clear h1
  generalize hll : l.length = n at *
  unfold OwnRes
  rw [hll]
  generalize l.flatten = fl at *
  go_enter Try.func40, Try.ntmps40
  go_wp2_with (at_builtin; refine wpList_append_grows _ rfl (.tmp 5) (.tmp 6) 58 rfl 49 i0 _ 2 24 Try.underlying58 hi0 hz0 hz1 hz2 rfl (by decide) _ 0 0 [] rfl (by simp) rfl (by simp) ⟨b, off, none⟩ n cap fl rfl HL.out ?c1 H1.out (by omega) (by unfold maxLen; omega) (by omega) ?_; (case c1 => exact fun j u hu => Lib.cell?_alloc_some _ (HC.out j u hu)); intro v' w' hown hgr)
  go_ret
  rw [Nat.zero_add, List.nil_append] at hown
  exact ⟨v', rfl, below_own rfl hgr, World.ownsRow.mono hown (size_alloc _ _)⟩

set_option maxRecDepth 50000 in
set_option maxHeartbeats 1000000 in
theorem cloneSlots_any (v : Value) (l : List (List Value)) (w : World) (hv : Sl 5 w v l) (hr : ∀ r ∈ l, r.length = 5) (h1 : ∀ u ∈ l.flatten, u.oneCell' = true) (hc : 0 < l.length) (hcl : l.length ≤ 1048576) :
    Calls Try.prog 33 #[v] w (OwnRes 60 5 l w) := by
  obtain ⟨p, cap, rfl, hl, hcm, _, hp⟩ := id hv
  obtain ⟨b, off, rfl, _⟩ := hp hc
  have HC : Hid (∀ j u, l.flatten[j]? = some u → w.cell? ((⟨b, off, none⟩ : Addr).add j) = some u) := hv.cells (by omega) hr
  have HL : Hid (l.flatten.length = l.length * 5) := flat_len hr
  obtain ⟨i0, hi0, hz0, hz1, hz2⟩ := info_parts info60
  clear hp hv hr
  unfold maxLen at hcm
  have n54 := nil54
  have H1 : Hid (∀ u ∈ l.flatten, u.oneCell' = true) := h1
  clear h1
  generalize hll : l.length = n at *
  unfold OwnRes
  rw [hll]
  generalize l.flatten = fl at *
  go_enter Try.func33, Try.ntmps33
  go_wp2_with (at_builtin; refine wpList_append_grows _ rfl (.tmp 5) (.tmp 6) 54 rfl 60 i0 _ 5 80 Try.underlying54 hi0 hz0 hz1 hz2 rfl (by decide) _ 0 0 [] rfl (by simp) rfl (by simp) ⟨b, off, none⟩ n cap fl rfl HL.out ?c1 H1.out (by omega) (by unfold maxLen; omega) (by omega) ?_; (case c1 => exact fun j u hu => Lib.cell?_alloc_some _ (HC.out j u hu)); intro v' w' hown hgr)
  go_ret
  rw [Nat.zero_add, List.nil_append] at hown
  exact ⟨v', rfl, below_own rfl hgr, World.ownsRow.mono hown (size_alloc _ _)⟩

theorem below_sets {B g : Nat} (hg : B ≤ g) : ∀ (vs : List Value) (o : Nat) {a w : World}, Below B a w → Below B a (w.setCells g o vs)
  | [], _, _, _, h => h
  | v :: r, o, _, _, h => below_sets hg r (o + 1) (h.setCell (p := ⟨g, o, none⟩) hg v)

theorem zero49 (w : World) : (zeroValue 49).run Try.prog w = .ok (.agg #[.string ByteArray.empty, .int .u64 0]) w := by
  obtain ⟨i0, hi0, hz0, _⟩ := info_parts info49
  simp [zeroValue, typeInfo, hi0, hz0]

set_option maxRecDepth 100000 in
set_option maxHeartbeats 2000000 in
theorem delete_any (g cap m q base : Nat) (l : List (List Value)) (w : World) (hb : base ≤ g) (hown : w.ownsRow base 49 2 (.slice (some ⟨g, 0, none⟩) (m + 1 + q) cap) (m + 1 + q) l.flatten) (hl : l.length = m + 1 + q)
    (hr : ∀ r ∈ l, r.length = 2) (h1 : ∀ u ∈ l.flatten, u.oneCell' = true) (hn : m + 1 + q ≤ 1048576) (hcap : m + 1 + q ≤ cap) (hcm : cap ≤ maxLen) :
    Calls Try.prog 39 #[.slice (some ⟨g, 0, none⟩) (m + 1 + q) cap, .int .i64 m, .int .i64 ((m : Int) + 1)] w fun e w' => e = .returned (.slice (some ⟨g, 0, none⟩) (m + q) cap) ∧ Below base w w' ∧ Sl 2 w' (.slice (some ⟨g, 0, none⟩) (m + q) cap) (l.eraseIdx m) := by
  unfold maxLen at hcm
  rw [show ((m : Int) + 1) = ((m + 1 : Nat) : Int) from rfl]
  obtain ⟨news, hnews⟩ : ∃ news, news = (l.drop (m + 1)).flatten := ⟨_, rfl⟩
  have hrd : ∀ r ∈ l.drop (m + 1), r.length = 2 := fun r h => hr r (List.mem_of_mem_drop h)
  have hlen : news.length = q * 2 := by rw [hnews, flat_len hrd, List.length_drop, hl]; congr 1; omega
  have hcell : ∀ i r, l[i]? = some r → ∀ k u, r[k]? = some u → w.cell? ⟨g, i * 2 + k, none⟩ = some u := by
    intro i r h2 k u h3
    have hf := flat_at hr h2 h3
    have hlt := (List.getElem?_eq_some_iff.mp hf).1
    rw [flat_len hr, hl] at hlt
    rw [hown.cellAt _ hlt, hf]
  have hthere : ∀ t, t < (m + 1 + q) * 2 → (w.cell? ⟨g, t, none⟩).isSome = true := by
    intro t ht
    rw [hown.cellAt t ht, List.getElem?_eq_getElem (by rw [flat_len hr, hl]; exact ht)]
    rfl
  obtain ⟨i0, hi0, hz0, hz1, hz2⟩ := info_parts info49
  obtain ⟨W1, hW1⟩ : ∃ W1, W1 = w.drew.setCells g (0 + m * 2) news := ⟨_, rfl⟩
  obtain ⟨A, hA, hsrc⟩ : ∃ A : Addr, (if cap = m + 1 then some (⟨g, 0, none⟩ : Addr) else some ⟨g, (m + 1) * 2, none⟩) = some A ∧ Hid (∀ t u, news[t]? = some u → w.drew.cell? (A.add t) = some u) := by
    by_cases h : cap = m + 1
    · refine ⟨⟨g, 0, none⟩, by simp [h], fun t u hu => ?_⟩
      have h0 : news.length = 0 := by rw [hlen]; omega
      rw [List.length_eq_zero_iff.1 h0] at hu
      simp at hu
    · refine ⟨⟨g, (m + 1) * 2, none⟩, by simp [h], fun t u hu => ?_⟩
      rw [hnews] at hu
      obtain ⟨i, k, r, rfl, _, h2, h3⟩ := flat_get (by omega) hrd hu
      rw [List.getElem?_drop] at h2
      have := hcell _ _ h2 _ _ h3
      rw [Addr.add_lit, show (m + 1) * 2 + (i * 2 + k) = (m + 1 + i) * 2 + k by omega]
      exact this
  have s1 : Hid (news.length = q * 2) := hlen
  have s2 : Hid (∀ u ∈ news, u.oneCell' = true) := by
    intro u hu
    rw [hnews] at hu
    obtain ⟨r, hr1, hr2⟩ := List.mem_flatten.mp hu
    exact h1 u (List.mem_flatten.mpr ⟨r, List.mem_of_mem_drop hr1, hr2⟩)
  have s3 : Hid (∀ t, t < news.length → (w.drew.cell? ⟨g, 0 + m * 2 + t, none⟩).isSome = true ∧ w.drew.frozen? ⟨g, 0 + m * 2 + t, none⟩ = false) := by
    intro t ht
    rw [hlen] at ht
    exact ⟨hthere _ (by omega), hown.frozenAt _⟩
  have hcl : ∀ ty c, (Builtin.clear_ #[58] ty #[.slice (some ⟨g, (m + q) * 2, none⟩) 1 c]).run Try.prog W1 = .ok (.tuple #[]) (W1.setCells g ((m + q) * 2) [.string ByteArray.empty, .int .u64 0]) := by
    intro ty c
    have hst := run_storeCells_cells (P := Try.prog) g ((m + q) * 2) [.string ByteArray.empty, .int .u64 0] 0 W1 (fun j hj => ?_) (fun j hj => ?_) (by simp [Value.oneCell'])
    · simp only [Nat.add_zero] at hst
      simp [Builtin.clear_, run_underlying Try.underlying58, Builtin.zeroCells, Value.cells]
      rw [show (List.map (fun i => [Value.string { data := #[] }, Value.int IntKind.u64 0][i % 2]?.getD default) (List.range 2) : List Value) = [.string ByteArray.empty, .int .u64 0] from rfl, hst]
      rfl
    · have hj' : j < 2 := hj
      by_cases ho : (m + q) * 2 + 0 + j < 0 + m * 2 + q * 2
      · rw [hW1]
        have := World.cell?_setCells_in g news (0 + m * 2) w.drew (fun t ht => (s3.out t ht).1) ((m + q) * 2 + 0 + j - (0 + m * 2)) (by omega)
        rw [show 0 + m * 2 + ((m + q) * 2 + 0 + j - (0 + m * 2)) = (m + q) * 2 + 0 + j by omega] at this
        rw [this]; rfl
      · rw [hW1, World.cell?_setCells_out g news _ _ _ (fun _ _ => by simp only []; omega)]
        exact hthere _ (by omega)
    · rw [hW1, World.frozen?_setCells]
      exact hown.frozenAt _
  have hpost : Hid (Sl 2 (W1.setCells g ((m + q) * 2) [.string ByteArray.empty, .int .u64 0]) (.slice (some ⟨g, 0, none⟩) (m + q) cap) (l.eraseIdx m)) := by
    have hel : (l.eraseIdx m).length = m + q := by rw [List.length_eraseIdx_of_lt (by omega)]; omega
    refine ⟨some ⟨g, 0, none⟩, cap, by rw [hel], by omega, by unfold maxLen; omega, fun h => by simp at h, fun _ => ⟨g, 0, rfl, fun i r hi k u hu => ?_⟩⟩
    have hil : i < m + q := by have := (List.getElem?_eq_some_iff.mp hi).1; omega
    rw [List.getElem?_eraseIdx] at hi
    have hk : k < 2 := by
      have h3 := (List.getElem?_eq_some_iff.mp hu).1
      split at hi
      · rw [hr r (List.mem_of_getElem? hi)] at h3; exact h3
      · rw [hr r (List.mem_of_getElem? hi)] at h3; exact h3
    rw [World.cell?_setCells_out g _ _ _ _ (fun _ _ => by simp only []; omega), hW1]
    by_cases him : i < m
    · rw [if_pos him] at hi
      rw [World.cell?_setCells_out g _ _ _ _ (fun _ _ => by simp only []; omega), Nat.zero_add]
      exact hcell i r hi k u hu
    · rw [if_neg him] at hi
      have hf := flat_at hrd (i := i - m) (by rw [List.getElem?_drop, show m + 1 + (i - m) = i + 1 by omega]; exact hi) hu
      rw [← hnews] at hf
      obtain ⟨hlt, he⟩ := List.getElem?_eq_some_iff.mp hf
      have := World.cell?_setCells_in g news (0 + m * 2) w.drew (fun t ht => (s3.out t ht).1) _ hlt
      rw [show 0 + m * 2 + ((i - m) * 2 + k) = 0 + i * 2 + k by omega, he] at this
      exact this
  have hbel : Hid (Below base w (W1.setCells g ((m + q) * 2) [.string ByteArray.empty, .int .u64 0])) := by
    rw [hW1]
    exact below_sets hb _ _ (below_sets hb _ _ (Below.refl base w).drew)
  have hone : m + 1 + q - (m + q) = 1 := by omega
  have hic : m ≤ cap := by omega
  have hk0 : (0 : Int) ≤ (m : Int) + 1 := by omega
  have hk1 : (m : Int) + 1 ≤ (m : Int) + 1 + (q : Int) := by omega
  have hjc : m + 1 ≤ cap := by omega
  have n58 := nil58
  have HW : Hid (W1 = w.drew.setCells g (0 + m * 2) news) := hW1
  go_enter Try.func39, Try.ntmps39
  clear hW1 hcell hthere hrd hnews hlen h1 hr hl hown
  go_wp2_with fail
  go_region_law (refine step_append_room rfl (.tmp 22) (.tmp 25) 58 rfl 49 i0 2 Try.underlying58 hi0 hz1 g 0 m cap (by simp [Act.eval, Act.put]) A q (cap - (m + 1)) news (by simp [Act.eval, Act.put]) s1.out hsrc.out s2.out (by omega) s3.out ?_; rw [← HW.out])
  go_wp2
  go_ret
  exact ⟨rfl, hbel.out, hpost.out⟩

end Go.Proofs.Qxb6609165a
