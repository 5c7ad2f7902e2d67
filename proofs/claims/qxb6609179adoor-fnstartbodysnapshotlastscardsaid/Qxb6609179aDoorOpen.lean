/-
  The arguments, opened.
-/
import Derived.Test.Qxb6609179aDoorLaw
import Derived.ProofKit
import Derived.ShutString
import Derived.OpenShut
import Derived.LaidMore
import Derived.Stop.Joined
import Derived.Stop.LaidErr
import Derived.ChangeOld
import Derived.Below
import Derived.Deep.Slices
namespace Go.Proofs.Qxb6609179aDoor
open Go.ChangeShapes Go.WideShapes Go.ChangeAt Go.RowKit

theorem own : ownKnob Tryd.prog.godebug = none := by kernel_rfl
theorem laidOut : laidOutB Tryd.prog = true := by kernel_rfl

theorem cells22 : Tryd.prog.cellsOf 22 = 1 := by kernel_rfl
theorem cells9 : Tryd.prog.cellsOf 9 = 1 := by kernel_rfl

/-- A list whose members all come by f, as a list of their makings. -/
theorem list_by {α β : Type} {f : α → β} {q : α → Prop} : ∀ rows : List β, (∀ r ∈ rows, ∃ x, r = f x ∧ q x) → ∃ l : List α, rows = l.map f ∧ ∀ x ∈ l, q x
  | [], _ => ⟨[], rfl, fun x hx => by simp at hx⟩
  | r :: rows, h => by
    obtain ⟨x, rfl, hx⟩ := h r (by simp)
    obtain ⟨l, rfl, hl⟩ := list_by rows fun r hr => h r (by simp [hr])
    exact ⟨x :: l, rfl, fun y hy => (List.mem_cons.mp hy).elim (fun e => by rw [e]; exact hx) (hl y)⟩

section
variable {H : Type} {enc : TypeId × Value → H} {W : World} {fuel : Nat}

/-- A slice that came in, its rows. -/
theorem sl_in {t e : TypeId} {sz : Nat} {v : Value} {x : DataW H × List MemPlace} (ht : Tryd.prog.underlying t = some (.slice e)) (hsz : Tryd.prog.cellsOf e = sz) (hpos : 0 < sz) (h : DataW.trod enc Tryd.prog W 0 (fun _ => true) true fuel t [v] = some x) :
    ∃ rows : List (List Value), Sl sz W v rows ∧ ∀ r ∈ rows, ∃ n y, DataW.trod enc Tryd.prog W 0 (fun _ => true) true n e r = some y := by
  rcases Deep.open_slice ht h with ⟨hcs, _⟩ | ⟨a, len, cap, m, n, D, Pl, hcs, _, hl, hm, hmm, _, hx⟩
  · obtain rfl : v = .slice none 0 0 := by simpa using hcs
    exact ⟨[], ⟨none, 0, rfl, by simp, by unfold maxLen; omega, fun _ => ⟨rfl, rfl⟩, fun h => by simp at h⟩, fun r hr => by simp at hr⟩
  · obtain rfl : v = .slice (some a) len cap := by simpa using hcs
    have hlm : len ≤ m := by rw [hmm]; split <;> omega
    obtain ⟨cs, hc⟩ := Deep.choose_lt hx
    rw [hsz] at hc
    refine ⟨(List.range len).map cs, ⟨some a, cap, by simp, by simpa using hl, hm, fun h => by simp at h, fun hp => ?_⟩, fun r hr => ?_⟩
    · have hp : 0 < len := by simpa using hp
      obtain ⟨b, off, spot⟩ := a
      have h0 := (World.cells?_some (hc 0 (by omega)).1)
      obtain ⟨y0, hy0⟩ : ∃ y0, (cs 0)[0]? = some y0 := ⟨_, List.getElem?_eq_getElem (by omega)⟩
      have hspot : spot = none := by
        have := h0.2.2 0 (by omega)
        rw [hy0] at this
        simpa [Addr.add] using World.cell?_spot this
      subst hspot
      refine ⟨b, off, rfl, fun i r hr j x hx => ?_⟩
      rw [List.getElem?_map] at hr
      obtain ⟨k, hk, rfl⟩ := Option.map_eq_some_iff.mp hr
      obtain ⟨hik, rfl⟩ : i < len ∧ i = k := by
        obtain ⟨h1, h2⟩ := List.getElem?_eq_some_iff.mp hk
        simp at h1 h2
        exact ⟨h1, h2⟩
      obtain ⟨_, hlen, hcell⟩ := World.cells?_some (hc i (by omega)).1
      have hj := (List.getElem?_eq_some_iff.mp hx).1
      have := hcell j (by omega)
      rw [hx, Deep.add_add, add_plain, ← Nat.add_assoc] at this
      exact this
    · obtain ⟨i, hi, rfl⟩ := List.mem_map.mp hr
      exact ⟨n, _, (hc i (by have := List.mem_range.mp hi; omega)).2⟩

theorem fl_in {v : Value} {x : DataW H × List MemPlace} (h : DataW.trod enc Tryd.prog W 0 (fun _ => true) true fuel 22 [v] = some x) : ∃ l, FL W v l := by
  obtain ⟨rows, hs, hr⟩ := sl_in Tryd.underlying22 cells9 (by omega) h
  obtain ⟨l, rfl, hl⟩ := list_by (f := fun x : ByteArray => [.string x]) (q := fun x => x.size ≤ maxLen) rows fun r hr' => by
    obtain ⟨n, y, hy⟩ := hr r hr'
    obtain ⟨s, rfl, _, hsz⟩ := DataW.trod_string Tryd.underlying9 hy
    exact ⟨s, rfl, hsz⟩
  exact ⟨l, hs, hl⟩

/-- A slice of strings that came in, nil or not. -/
theorem sv_in {r : List Value} {x : DataW H × List MemPlace} (h : DataW.trod enc Tryd.prog W 0 (fun _ => true) true fuel 22 r = some x) : ∃ v o, r = [v] ∧ SV W v o := by
  rcases Deep.open_slice Tryd.underlying22 h with ⟨rfl, _⟩ | ⟨a, len, cap, _, _, _, _, rfl, _⟩
  · exact ⟨_, none, rfl, rfl⟩
  · obtain ⟨l, hl⟩ := fl_in h
    obtain ⟨p, c, e, _⟩ := hl.opened
    exact ⟨_, some l, rfl, ⟨a, cap, by injection e with _ e2; rw [e2]⟩, hl⟩

theorem nl_in {v : Value} {x : DataW H × List MemPlace} (h : DataW.trod enc Tryd.prog W 0 (fun _ => true) true fuel 23 [v] = some x) : ∃ l, NL W v l := by
  obtain ⟨rows, hs, hr⟩ := sl_in Tryd.underlying23 cells22 (by omega) h
  obtain ⟨l, rfl, hl⟩ := list_by (f := fun x : Value × Option (List ByteArray) => [x.1]) (q := fun x => SV W x.1 x.2) rows fun r hr' => by
    obtain ⟨n, y, hy⟩ := hr r hr'
    obtain ⟨u, o, rfl, hu⟩ := sv_in hy
    exact ⟨(u, o), rfl, hu⟩
  refine ⟨l.map (·.2), l.map (·.1), by simp, by rw [List.map_map]; exact hs, fun i u o hu ho => ?_⟩
  rw [List.getElem?_map] at hu ho
  obtain ⟨z, hz, rfl⟩ := Option.map_eq_some_iff.mp hu
  obtain ⟨z', hz', rfl⟩ := Option.map_eq_some_iff.mp ho
  obtain rfl : z = z' := Option.some.inj (hz.symm.trans hz')
  exact hl z (List.mem_of_getElem? hz)

end

/-- The listed variable's name, as the row gives it. -/
def vname : String := Rows.fnStartBodySnapshotLastsRow.named.headD default
/-- What the row lists. -/
def laidList : List (String × DataW Unit) := [(vname, Rows.laid_net_http_ErrHandlerTimeout)]

theorem door_met (os : Os) (args : Array Value) : laidMetH Tryd.prog laidList ((World.doorLaid Tryd.prog 400 os).forCall (fun _ _ => 0) ⟨#[], args, []⟩).memory :=
  laidMetH_of_parts3 (fuel := 8) (laidMet_of_run' 8 (by kernel_rfl) (by kernel_rfl)) (by kernel_rfl) (by kernel_rfl)

theorem law_any (kv vv : Value) (ok : Option (List ByteArray)) (vs : List (Option (List ByteArray))) (w : World) (hk : SV w kv ok) (hv : NL w vv vs) : Calls Tryd.prog 3 #[kv, vv] w (SaysTrue w) := by
  cases ok with
  | none =>
    obtain rfl : kv = .slice none 0 0 := hk
    exact law_nil vv vs w hv
  | some ks => exact law_some kv vv ks vs w hk hv

end Go.Proofs.Qxb6609179aDoor
