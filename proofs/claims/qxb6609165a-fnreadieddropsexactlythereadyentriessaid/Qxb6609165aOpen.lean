/-
  The arguments, opened.
-/
import Derived.Test.Qxb6609165aBase
import Derived.ProofKit
import Derived.ShutString
import Derived.ChangeOld
import Derived.Below
import Derived.Deep.Slices
namespace Go.Proofs.Qxb6609165a
open Go.ChangeShapes Go.WideShapes Go.ChangeAt Go.RowKit

theorem own : ownKnob Try.prog.godebug = none := by kernel_rfl
theorem laidOut : laidOutB Try.prog = true := by kernel_rfl

theorem cells3 : Try.prog.cellsOf 3 = 1 := by kernel_rfl
theorem cells9 : Try.prog.cellsOf 9 = 1 := by kernel_rfl
theorem cells22 : Try.prog.cellsOf 22 = 1 := by kernel_rfl
theorem cells38 : Try.prog.cellsOf 38 = 1 := by kernel_rfl
theorem cells39 : Try.prog.cellsOf 39 = 1 := by kernel_rfl
theorem cells41 : Try.prog.cellsOf 41 = 5 := by kernel_rfl
theorem cells53 : Try.prog.cellsOf 53 = 2 := by kernel_rfl
theorem cells66 : Try.prog.cellsOf 66 = 2 := by kernel_rfl
theorem cells77 : Try.prog.cellsOf 77 = 2 := by kernel_rfl

theorem two_of {α : Type} {l : List α} (h : l.length = 2) : ∃ a b, l = [a, b] := by
  rcases l with _ | ⟨a, _ | ⟨b, _ | ⟨c, l⟩⟩⟩ <;> simp at h ⊢

theorem five_of {α : Type} {l : List α} (h : l.length = 5) : ∃ a b c d e, l = [a, b, c, d, e] := by
  rcases l with _ | ⟨a, _ | ⟨b, _ | ⟨c, _ | ⟨d, _ | ⟨e, _ | ⟨f, l⟩⟩⟩⟩⟩⟩ <;> simp at h ⊢

/-- A list whose members all come by f, as a list of their makings. -/
theorem list_by {α β : Type} {f : α → β} {q : α → Prop} : ∀ rows : List β, (∀ r ∈ rows, ∃ x, r = f x ∧ q x) → ∃ l : List α, rows = l.map f ∧ ∀ x ∈ l, q x
  | [], _ => ⟨[], rfl, fun x hx => by simp at hx⟩
  | r :: rows, h => by
    obtain ⟨x, rfl, hx⟩ := h r (by simp)
    obtain ⟨l, rfl, hl⟩ := list_by rows fun r hr => h r (by simp [hr])
    exact ⟨x :: l, rfl, fun y hy => (List.mem_cons.mp hy).elim (fun e => by rw [e]; exact hx) (hl y)⟩

section
variable {H : Type} {enc : TypeId × Value → H} {W : World} {fuel : Nat}

/-- A slice that came in, its rows. -/
theorem sl_in {t e : TypeId} {sz : Nat} {v : Value} {x : DataW H × List MemPlace} (ht : Try.prog.underlying t = some (.slice e)) (hsz : Try.prog.cellsOf e = sz) (hpos : 0 < sz) (h : DataW.trod enc Try.prog W 0 (fun _ => true) true fuel t [v] = some x) :
    ∃ rows : List (List Value), Sl sz W v rows ∧ ∀ r ∈ rows, ∃ n y, DataW.trod enc Try.prog W 0 (fun _ => true) true n e r = some y := by
  rcases Deep.open_slice ht h with ⟨hcs, _⟩ | ⟨a, len, cap, m, n, D, Pl, hcs, _, hl, hm, hmm, _, hx⟩
  · obtain rfl : v = .slice none 0 0 := by simpa using hcs
    exact ⟨[], ⟨none, 0, rfl, by simp, by unfold maxLen; omega, fun _ => ⟨rfl, rfl⟩, fun h => by simp at h⟩, fun r hr => by simp at hr⟩
  · obtain rfl : v = .slice (some a) len cap := by simpa using hcs
    have hlm : len ≤ m := by rw [hmm]; split <;> omega
    obtain ⟨cs, hc⟩ := Deep.choose_lt hx
    rw [hsz] at hc
    refine ⟨(List.range len).map cs, ⟨some a, cap, by simp, by simpa using hl, hm, fun h => by simp at h, fun hp => ?_⟩, fun r hr => ?_⟩
    · have hp : 0 < len := by simpa using hp
      obtain ⟨b, off, spot⟩ := a
      have h0 := (World.cells?_some (hc 0 (by omega)).1)
      obtain ⟨y0, hy0⟩ : ∃ y0, (cs 0)[0]? = some y0 := ⟨_, List.getElem?_eq_getElem (by omega)⟩
      have hspot : spot = none := by
        have := h0.2.2 0 (by omega)
        rw [hy0] at this
        simpa [Addr.add] using World.cell?_spot this
      subst hspot
      refine ⟨b, off, rfl, fun i r hr j x hx => ?_⟩
      rw [List.getElem?_map] at hr
      obtain ⟨k, hk, rfl⟩ := Option.map_eq_some_iff.mp hr
      obtain ⟨hik, rfl⟩ : i < len ∧ i = k := by
        obtain ⟨h1, h2⟩ := List.getElem?_eq_some_iff.mp hk
        simp at h1 h2
        exact ⟨h1, h2⟩
      obtain ⟨_, hlen, hcell⟩ := World.cells?_some (hc i (by omega)).1
      have hj := (List.getElem?_eq_some_iff.mp hx).1
      have := hcell j (by omega)
      rw [hx, Deep.add_add, add_plain, ← Nat.add_assoc] at this
      exact this
    · obtain ⟨i, hi, rfl⟩ := List.mem_map.mp hr
      exact ⟨n, _, (hc i (by have := List.mem_range.mp hi; omega)).2⟩

theorem pair_in {e : TypeId} {f0 f1 : Field} {r : List Value} {n : Nat} {y : DataW H × List MemPlace} (he : Try.prog.underlying e = some (.struct #[f0, f1])) (ce : Try.prog.cellsOf e = 2) (o0 : f0.offset = 0) (o1 : f1.offset = 1) (c0 : Try.prog.cellsOf f0.type = 1) (c1 : Try.prog.cellsOf f1.type = 1)
    (h : DataW.trod enc Try.prog W 0 (fun _ => true) true n e r = some y) : ∃ v0 v1 k y0 y1, r = [v0, v1] ∧ DataW.trod enc Try.prog W 0 (fun _ => true) true k f0.type [v0] = some y0 ∧ DataW.trod enc Try.prog W 0 (fun _ => true) true k f1.type [v1] = some y1 := by
  obtain ⟨xs, k, _, _, hlen, hxl, hf⟩ := DataW.trod_struct he h
  rw [ce] at hlen
  obtain ⟨y0, y1, rfl⟩ := two_of hxl
  obtain ⟨v0, v1, rfl⟩ := two_of hlen
  have g0 := hf 0 f0 rfl
  have g1 := hf 1 f1 rfl
  simp [o0, o1, c0, c1] at g0 g1
  exact ⟨v0, v1, k, y0, y1, rfl, g0, g1⟩

theorem nrl_in {v : Value} {x : DataW H × List MemPlace} (h : DataW.trod enc Try.prog W 0 (fun _ => true) true fuel 39 [v] = some x) : ∃ l, NRL W v l := by
  obtain ⟨rows, hs, hr⟩ := sl_in Try.underlying39 cells53 (by omega) h
  obtain ⟨l, rfl, hl⟩ := list_by (f := fun x : ByteArray × Int => [.string x.1, .int .u64 x.2]) (q := fun x => x.1.size ≤ maxLen) rows fun r hr' => by
    obtain ⟨n, y, hy⟩ := hr r hr'
    obtain ⟨v0, v1, k, y0, y1, rfl, g0, g1⟩ := pair_in Try.underlying53 cells53 rfl rfl cells9 cells22 hy
    obtain ⟨s, hs, _, hsz⟩ := DataW.trod_string Try.underlying9 g0
    obtain ⟨i, hi, _, _⟩ := DataW.trod_int Try.underlying22 g1
    obtain rfl : v0 = .string s := by simpa using hs
    obtain rfl : v1 = .int .u64 i := by simpa using hi
    exact ⟨(s, i), rfl, hsz⟩
  exact ⟨l, hs, hl⟩

theorem fl_in {v : Value} {x : DataW H × List MemPlace} (h : DataW.trod enc Try.prog W 0 (fun _ => true) true fuel 38 [v] = some x) : ∃ l, FL W v l := by
  obtain ⟨rows, hs, hr⟩ := sl_in Try.underlying38 cells9 (by omega) h
  obtain ⟨l, rfl, hl⟩ := list_by (f := fun x : ByteArray => [.string x]) (q := fun x => x.size ≤ maxLen) rows fun r hr' => by
    obtain ⟨n, y, hy⟩ := hr r hr'
    obtain ⟨s, rfl, _, hsz⟩ := DataW.trod_string Try.underlying9 hy
    exact ⟨s, rfl, hsz⟩
  exact ⟨l, hs, hl⟩

theorem al_in {v : Value} {x : DataW H × List MemPlace} (h : DataW.trod enc Try.prog W 0 (fun _ => true) true fuel 24 [v] = some x) : ∃ l, AL W v l := by
  obtain ⟨rows, hs, hr⟩ := sl_in Try.underlying24 cells66 (by omega) h
  obtain ⟨l, rfl, hl⟩ := list_by (f := fun x : ByteArray × ByteArray => [.string x.1, .string x.2]) (q := fun x => x.1.size ≤ maxLen ∧ x.2.size ≤ maxLen) rows fun r hr' => by
    obtain ⟨n, y, hy⟩ := hr r hr'
    obtain ⟨v0, v1, k, y0, y1, rfl, g0, g1⟩ := pair_in Try.underlying66 cells66 rfl rfl cells9 cells9 hy
    obtain ⟨s, hs, _, hsz⟩ := DataW.trod_string Try.underlying9 g0
    obtain ⟨s', hs', _, hsz'⟩ := DataW.trod_string Try.underlying9 g1
    obtain rfl : v0 = .string s := by simpa using hs
    obtain rfl : v1 = .string s' := by simpa using hs'
    exact ⟨(s, s'), rfl, hsz, hsz'⟩
  exact ⟨l, hs, hl⟩

theorem rl_in {v : Value} {x : DataW H × List MemPlace} (h : DataW.trod enc Try.prog W 0 (fun _ => true) true fuel 43 [v] = some x) : ∃ l, RL W v l := by
  obtain ⟨rows, hs, hr⟩ := sl_in Try.underlying43 cells77 (by omega) h
  obtain ⟨l, rfl, hl⟩ := list_by (f := fun x : Int × ByteArray => [.int .i64 x.1, .string x.2]) (q := fun x => x.2.size ≤ maxLen) rows fun r hr' => by
    obtain ⟨n, y, hy⟩ := hr r hr'
    obtain ⟨v0, v1, k, y0, y1, rfl, g0, g1⟩ := pair_in Try.underlying77 cells77 rfl rfl cells3 cells9 hy
    obtain ⟨s, hs, _, hsz⟩ := DataW.trod_string Try.underlying9 g1
    obtain ⟨i, hi, _, _⟩ := DataW.trod_int Try.underlying3 g0
    obtain rfl : v1 = .string s := by simpa using hs
    obtain rfl : v0 = .int .i64 i := by simpa using hi
    exact ⟨(i, s), rfl, hsz⟩
  exact ⟨l, hs, hl⟩

theorem five_in {r : List Value} {n : Nat} {y : DataW H × List MemPlace} (h : DataW.trod enc Try.prog W 0 (fun _ => true) true n 41 r = some y) :
    ∃ v0 v1 v2 v3 v4 k y0 y1 y2 y3 y4, r = [v0, v1, v2, v3, v4] ∧ DataW.trod enc Try.prog W 0 (fun _ => true) true k 3 [v0] = some y0 ∧ DataW.trod enc Try.prog W 0 (fun _ => true) true k 9 [v1] = some y1 ∧ DataW.trod enc Try.prog W 0 (fun _ => true) true k 22 [v2] = some y2 ∧
      DataW.trod enc Try.prog W 0 (fun _ => true) true k 38 [v3] = some y3 ∧ DataW.trod enc Try.prog W 0 (fun _ => true) true k 39 [v4] = some y4 := by
  obtain ⟨xs, k, _, _, hlen, hxl, hf⟩ := DataW.trod_struct Try.underlying41 h
  rw [cells41] at hlen
  obtain ⟨y0, y1, y2, y3, y4, rfl⟩ := five_of hxl
  obtain ⟨v0, v1, v2, v3, v4, rfl⟩ := five_of hlen
  have g0 := hf 0 _ rfl
  have g1 := hf 1 _ rfl
  have g2 := hf 2 _ rfl
  have g3 := hf 3 _ rfl
  have g4 := hf 4 _ rfl
  simp [cells3, cells9, cells22, cells38, cells39] at g0 g1 g2 g3 g4
  exact ⟨v0, v1, v2, v3, v4, k, y0, y1, y2, y3, y4, rfl, g0, g1, g2, g3, g4⟩

theorem sls_in {v : Value} {x : DataW H × List MemPlace} (h : DataW.trod enc Try.prog W 0 (fun _ => true) true fuel 23 [v] = some x) : ∃ l, SLs W v l := by
  obtain ⟨rows, hs, hr⟩ := sl_in Try.underlying23 cells41 (by omega) h
  obtain ⟨l, rfl, hl⟩ := list_by (f := SlotD.row) (q := fun s => s.leader.size ≤ maxLen ∧ FL W s.fol s.fs ∧ NRL W s.nr s.es) rows fun r hr' => by
    obtain ⟨n, y, hy⟩ := hr r hr'
    obtain ⟨v0, v1, v2, v3, v4, k, y0, y1, y2, y3, y4, rfl, g0, g1, g2, g3, g4⟩ := five_in hy
    obtain ⟨i, hi, _, _⟩ := DataW.trod_int Try.underlying3 g0
    obtain ⟨s, hs, _, hsz⟩ := DataW.trod_string Try.underlying9 g1
    obtain ⟨ep, hep, _, _⟩ := DataW.trod_int Try.underlying22 g2
    obtain ⟨fs, hfs⟩ := fl_in g3
    obtain ⟨es, hes⟩ := nrl_in g4
    obtain rfl : v0 = .int .i64 i := by simpa using hi
    obtain rfl : v1 = .string s := by simpa using hs
    obtain rfl : v2 = .int .u64 ep := by simpa using hep
    exact ⟨⟨i, s, ep, v3, fs, v4, es⟩, rfl, hsz, hfs, hes⟩
  exact ⟨l, hs, hl⟩

end

end Go.Proofs.Qxb6609165a
