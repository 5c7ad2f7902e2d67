/-
  A map with string keys that the call has made, as a plain function.
-/
import Derived.Test.Qxb6609179aDoorRows
import Derived.WalkKit
import Derived.WalkSpells
import Derived.MapKept
import Derived.MapFrom
import Derived.ChangeMaps4
import Derived.Maps.RangeRun
namespace Go.Proofs.Qxb6609179aDoor
open Go.RowKit Go.MapKept
open Go.ChangeMaps (setBlock)

/-- Block b is a map of n entries that holds f. -/
def MapIs (w : World) (b : Nat) (f : ByteArray → Option Value) (n : Nat) : Prop :=
  ∃ es clock, w.heap[b]? = some (.map es clock) ∧ es.size = n ∧ (∀ x ∈ es.toList, ∃ s, x.key = .string s ∧ f s = some x.val) ∧ (∀ s v, f s = some v → ∃ x ∈ es.toList, x.key = .string s) ∧ Stamped es clock

theorem MapIs.made (w : World) : MapIs (w.alloc (.map #[] 0)) w.heap.size (fun _ => none) 0 :=
  ⟨#[], 0, (heap_alloc w _).1, rfl, fun x hx => by simp at hx, fun s v h => by simp at h, stamped_empty 0⟩

theorem MapIs.lt {w : World} {b n : Nat} {f : ByteArray → Option Value} (h : MapIs w b f n) : b < w.heap.size := by
  obtain ⟨es, clock, hb, _⟩ := h
  exact (Array.getElem?_eq_some_iff.1 hb).1

theorem MapIs.same {w w' : World} {b n : Nat} {f : ByteArray → Option Value} (h : MapIs w b f n) (e : w'.heap[b]? = w.heap[b]?) : MapIs w' b f n := by
  obtain ⟨es, clock, hb, h1⟩ := h
  exact ⟨es, clock, e.trans hb, h1⟩

theorem MapIs.congr {w : World} {b n : Nat} {f g : ByteArray → Option Value} (h : MapIs w b f n) (e : ∀ s, f s = g s) : MapIs w b g n := by
  obtain rfl : f = g := funext e
  exact h

section
variable {P : Program} {w : World} {b n : Nat} {f : ByteArray → Option Value} {t k e : TypeId}

theorem isKeys {es : Array MapEntry} (h : ∀ x ∈ es.toList, ∃ s, x.key = .string s ∧ f s = some x.val) : ∀ x ∈ es.toList, IsKey .string x.key := by
  intro x hx
  obtain ⟨s, hs, _⟩ := h x hx
  rw [hs]
  trivial

theorem MapIs.look (h : MapIs w b f n) (ht : P.underlying t = some (.map k e)) (hk : P.underlying k = some .string) {z : Value} (hz : (zeroValue e).run P w = .ok z w) (s : ByteArray) (c : Bool) :
    (Instr.lookup t (.map (some b)) (.string s) c).run P w = .ok (if c then .tuple #[(f s).getD z, .bool (f s).isSome] else (f s).getD z) w := by
  obtain ⟨es, clock, hb, _, hks, hal, hst⟩ := h
  have hK : IsKey .string (.string s) := trivial
  rcases findNow_spec hK es.toList 0 (isKeys hks) with ⟨h1, h2⟩ | ⟨j, e0, h1, h2, h3⟩
  · have hn : f s = none := by
      cases hf : f s with
      | none => rfl
      | some v =>
        obtain ⟨x, hx, hxk⟩ := hal s v hf
        exact absurd hxk (h2 x hx)
    rw [hn]
    cases c <;> simp [Instr.lookup, run_underlying ht, MapKept.run_getObj_map hb, run_checkKey hk hK, run_findKey hk h1, hz, Result.andThen]
  · obtain ⟨s', hs', hv⟩ := hks e0 (List.mem_of_getElem? h2)
    rw [h3] at hs'
    injection hs' with hs'
    subst hs'
    rw [hv]
    cases c <;> simp [Instr.lookup, run_underlying ht, MapKept.run_getObj_map hb, run_checkKey hk hK, run_findKey hk h1, Result.andThen]

theorem look_none (ht : P.underlying t = some (.map k e)) (hk : P.underlying k = some .string) {z : Value} (hz : (zeroValue e).run P w = .ok z w) (s : ByteArray) (c : Bool) :
    (Instr.lookup t (.map none) (.string s) c).run P w = .ok (if c then .tuple #[z, .bool false] else z) w := by
  have hK : IsKey .string (.string s) := trivial
  have h1 : Instr.findNow .string (.string s) ([] : List MapEntry) 0 = some none := rfl
  cases c <;> simp [Instr.lookup, run_underlying ht, run_checkKey hk hK, run_findKey hk h1, hz, Result.andThen]

/-- The function, turned at one key. -/
def upd (f : ByteArray → Option Value) (s : ByteArray) (v : Value) : ByteArray → Option Value := fun x => if x = s then some v else f x

theorem upd_self (f : ByteArray → Option Value) (s : ByteArray) (v : Value) : upd f s v s = some v := by unfold upd; simp
theorem upd_other {f : ByteArray → Option Value} {s x : ByteArray} {v : Value} (h : x ≠ s) : upd f s v x = f x := by unfold upd; simp [h]

/-- The world with block b turned, all other blocks as they were. -/
def TurnedAt (b : Nat) (w w' : World) : Prop := ∃ es clock es' clock', w.heap[b]? = some (.map es clock) ∧ w' = setBlock w b (.map es' clock')

theorem MapIs.store (h : MapIs w b f n) (ht : P.underlying t = some (.map k e)) (hk : P.underlying k = some .string) (s : ByteArray) (v : Value) :
    ∃ w', (Instr.mapUpdate t (.map (some b)) (.string s) v).run P w = .ok () w' ∧ MapIs w' b (upd f s v) (if (f s).isSome then n else n + 1) ∧ TurnedAt b w w' := by
  obtain ⟨es, clock, hb, hn, hks, hal, hst⟩ := h
  have hnd : (es.toList.map (·.key)).Nodup := hst.2.2
  have hK : IsKey .string (.string s) := trivial
  rcases findNow_spec hK es.toList 0 (isKeys hks) with ⟨h1, h2⟩ | ⟨j, e0, h1, h2, h3⟩
  · have hf0 : f s = none := by
      cases hf : f s with
      | none => rfl
      | some v =>
        obtain ⟨x, hx, hxk⟩ := hal s v hf
        exact absurd hxk (h2 x hx)
    refine ⟨setBlock w b (.map (es.push { key := .string s, val := v, born := clock }) (clock + 1)), ?_, ?_, es, clock, _, _, hb, rfl⟩
    · simp [Instr.mapUpdate, run_underlying ht, MapKept.run_getObj_map hb, run_checkKey hk hK, run_findKey hk h1, run_setObj_map _ hb, Result.andThen, setBlock]
    · refine ⟨_, _, (heap_set hb).1, by simp [hn, hf0], fun x hx => ?_, fun s' v' hv => ?_, ?_⟩
      · simp only [Array.toList_push, List.mem_append, List.mem_singleton] at hx
        rcases hx with hx | rfl
        · obtain ⟨s', hs', hv⟩ := hks x hx
          refine ⟨s', hs', ?_⟩
          rw [upd_other (fun e => h2 x hx (by rw [hs', e]))]
          exact hv
        · exact ⟨s, rfl, upd_self _ _ _⟩
      · by_cases hs : s' = s
        · subst hs
          exact ⟨{ key := .string s', val := v, born := clock }, by simp, rfl⟩
        · rw [upd_other hs] at hv
          obtain ⟨x, hx, hxk⟩ := hal s' v' hv
          exact ⟨x, by simp [Array.mem_toList_iff.mp hx], hxk⟩
      · exact stamped_push hst h2
  · have hj : es[j]? = some e0 := by simpa using h2
    obtain ⟨s', hs', hv0⟩ := hks e0 (List.mem_of_getElem? h2)
    rw [h3] at hs'
    injection hs' with hs'
    subst hs'
    refine ⟨setBlock w b (.map (es.modify j fun e => { e with key := .string s, val := v }) clock), ?_, ?_, es, clock, _, _, hb, rfl⟩
    · simp [Instr.mapUpdate, run_underlying ht, MapKept.run_getObj_map hb, run_checkKey hk hK, run_findKey hk h1, hj, h3, run_keyThatStays hK, run_setObj_map _ hb, Result.andThen, setBlock]
    · have hkeys : (es.modify j fun e => { e with key := .string s, val := v }).toList.map (·.key) = es.toList.map (·.key) := modify_keys j _ (fun e he => by rw [hj] at he; obtain rfl := Option.some.inj he; exact h3.symm)
      refine ⟨_, _, (heap_set hb).1, by simp [hn, hv0], fun x hx => ?_, fun s' v' hv => ?_, stamped_modify hst j _ (fun _ _ => rfl) (fun e _ he => by rw [hj] at he; obtain rfl := Option.some.inj he; exact h3.symm)⟩
      · rw [Array.mem_toList_iff, Array.mem_iff_getElem?] at hx
        obtain ⟨i, hi⟩ := hx
        rw [Array.getElem?_modify] at hi
        split at hi
        · rename_i hij
          subst hij
          rw [hj] at hi
          obtain rfl := Option.some.inj hi
          exact ⟨s, rfl, upd_self _ _ _⟩
        · rename_i hij
          obtain ⟨s', hs', hv⟩ := hks x (by rw [Array.mem_toList_iff, Array.mem_iff_getElem?]; exact ⟨i, hi⟩)
          refine ⟨s', hs', ?_⟩
          rw [upd_other ?_]
          · exact hv
          · rintro rfl
            have hli : es.toList[i]? = some x := by simpa using hi
            have e1 : (es.toList.map (·.key))[i]? = some (.string s') := by rw [List.getElem?_map, hli]; simp [hs']
            have e2 : (es.toList.map (·.key))[j]? = some (.string s') := by rw [List.getElem?_map, h2]; simp [h3]
            have hil := (List.getElem?_eq_some_iff.mp e1).1
            exact hij ((List.getElem?_inj (List.getElem?_eq_some_iff.mp e2).1 hnd).mp (e2.trans e1.symm))
      · have hmem : (.string s' : Value) ∈ es.toList.map (·.key) := by
          by_cases hs : s' = s
          · subst hs
            exact List.mem_map.mpr ⟨e0, List.mem_of_getElem? h2, h3⟩
          · rw [upd_other hs] at hv
            obtain ⟨x, hx, hxk⟩ := hal s' v' hv
            exact List.mem_map.mpr ⟨x, hx, hxk⟩
        rw [← hkeys] at hmem
        obtain ⟨x, hx, hxk⟩ := List.mem_map.mp hmem
        exact ⟨x, hx, hxk⟩

theorem MapIs.len (h : MapIs w b f n) (ht : P.underlying t = some (.map k e)) (ty : TypeId) : (Builtin.len_ #[t] ty #[.map (some b)]).run P w = .ok (.int .i64 n) w := by
  obtain ⟨es, clock, hb, hn, _⟩ := h
  simp [Builtin.len_, run_underlying ht, MapKept.run_getObj_map hb, Result.andThen, goInt, hn]

theorem TurnedAt.other {w w' : World} {b : Nat} (h : TurnedAt b w w') {i : Nat} (hi : i ≠ b) : w'.heap[i]? = w.heap[i]? := by
  obtain ⟨es, clock, es', clock', hb, rfl⟩ := h
  exact (heap_set hb).2 i hi

end

theorem sub_len {α : Type} [DecidableEq α] : ∀ {l m : List α}, l.Nodup → (∀ x ∈ l, x ∈ m) → l.length ≤ m.length
  | [], m, _, _ => by simp
  | a :: l, m, hn, h => by
    have hm := h a (by simp)
    have hn' := List.nodup_cons.mp hn
    have := sub_len (l := l) (m := m.erase a) hn'.2 fun x hx => (List.mem_erase_of_ne (fun e => hn'.1 (by rw [← e]; exact hx))).mpr (h x (by simp [hx]))
    rw [List.length_erase_of_mem hm] at this
    have hp : 0 < m.length := List.length_pos_of_mem hm
    simp
    omega

open Classical in
/-- Two maps with the same keys have the same size. -/
theorem MapIs.size_le {w w' : World} {b b' n n' : Nat} {f g : ByteArray → Option Value} (h : MapIs w b f n) (h' : MapIs w' b' g n') (hs : ∀ s, (f s).isSome → (g s).isSome) : n ≤ n' := by
  obtain ⟨es, clock, _, hn, hks, _, hst⟩ := h
  have hnd : (es.toList.map (·.key)).Nodup := hst.2.2
  obtain ⟨es', clock', _, hn', _, hal', _⟩ := h'
  have := sub_len (m := es'.toList.map (·.key)) hnd fun x hx => by
    obtain ⟨y, hy, rfl⟩ := List.mem_map.mp hx
    obtain ⟨s, hs1, hs2⟩ := hks y hy
    obtain ⟨v, hv⟩ := Option.isSome_iff_exists.mp (hs s (by rw [hs2]; rfl))
    obtain ⟨z, hz, hzk⟩ := hal' s v hv
    exact List.mem_map.mpr ⟨z, hz, by rw [hzk, hs1]⟩
  simp at this
  omega

end Go.Proofs.Qxb6609179aDoor
