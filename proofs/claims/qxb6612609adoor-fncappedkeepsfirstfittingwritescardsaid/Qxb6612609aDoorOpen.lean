/-
  What the rows of this seat share: the listed variable, the opened arguments, the start.
-/
import Derived.Test.Qxb6612609aDoorLaw1
import Derived.Test.Qxb6612609aDoorRows
import Derived.ProofKit
import Derived.OpenShut
import Derived.ChangeOld
import Derived.Below
import Derived.LaidMore
import Derived.Stop.Joined
import Derived.Stop.LaidErr
import Derived.Deep.Matrix
namespace Go.Proofs.Qxb6612609aDoor
open Go.ChangeShapes Go.WideShapes Go.ChangeAt Go.RowKit Go.Deep
set_option linter.unusedVariables false

theorem own : ownKnob Tryd.prog.godebug = none := by kernel_rfl
theorem laidOut : laidOutB Tryd.prog = true := by kernel_rfl
/-- The listed variable's name, as the rows give it. -/
def vname : String := Rows.fnCappedKeepsFirstFittingWritesSpec.vars.headD default
/-- Its dynamic type's name, as the rows give it. -/
def tname : String := match (Rows.laid_example_com_drainwarden_drainwarden_ceph_errPastLimit : DataW Unit) with | .iface n _ => n | _ => default
theorem gE : Tryd.prog.globalNamed vname = some 0 := by kernel_rfl
theorem gEType : (Tryd.prog.globals[0]?).map (·.type) = some 29 := by kernel_rfl
theorem cells64 : Tryd.prog.cellsOf 64 = 1 := by kernel_rfl
theorem cells9 : Tryd.prog.cellsOf 9 = 1 := by kernel_rfl
theorem row43 (u : TypeId) (h : Tryd.prog.typeName? 3 u = some tname) : u = 43 :=
  typeName_ptr_named (nm := "errors.errorString") (by kernel_rfl) (by kernel_rfl) (by decide) u (h.trans (congrArg some (by kernel_rfl)))

/-- What both rows list. -/
def laidList : List (String × DataW Unit) := [(vname, Rows.laid_example_com_drainwarden_drainwarden_ceph_errPastLimit)]

theorem door_met (os : Os) (args : Array Value) : laidMetH Tryd.prog laidList ((World.doorLaid Tryd.prog 400 os).forCall (fun _ _ => 0) ⟨#[], args, []⟩).memory :=
  laidMetH_of_parts3 (fuel := 8) (laidMet_of_run' 8 (by kernel_rfl) (by kernel_rfl)) (by kernel_rfl) (by kernel_rfl)

/-- The listed variable's one cell. -/
theorem var_of_laid {W : World} (h : laidMetH Tryd.prog laidList W) : ∃ a : Addr, W.var? Tryd.prog vname = some #[.iface 43 (.pointer (some a))] := by
  rw [MakeChecks.laidMetH_plain _ _ _ (by kernel_rfl)] at h
  obtain ⟨a, s, hv, _⟩ := laid_sentinel h gE gEType Tryd.underlying29 row43 Tryd.underlying43 Tryd.underlying64 rfl rfl Tryd.underlying9 cells64 cells9
  exact ⟨a, hv⟩

theorem var_below {W W' : World} {cs : Array Value} (h : W.var? Tryd.prog vname = some cs) (hb : Below W.heap.size W W') : W'.var? Tryd.prog vname = some cs := by
  unfold World.var? at h ⊢
  simp only [gE, Option.bind_some] at h ⊢
  have hlt : 0 < W.heap.size := by
    rcases Nat.eq_zero_or_pos W.heap.size with h0 | h0
    · rw [Array.getElem?_eq_none (by omega)] at h
      simp at h
    · exact h0
  rw [hb.block 0 hlt]
  exact h

def toByte (n : Int) : UInt8 := UInt8.ofNat n.toNat
theorem toByte_toNat {n : Int} (h : (Lit.int .u8 n).wf = true) : ((toByte n).toNat : Int) = n := by
  have hb := bounds_u8 h
  unfold toByte
  rw [UInt8.toNat_ofNat']
  omega

/-- A slice of byte slices that came in. -/
theorem chunks_in {H : Type} {enc : TypeId × Value → H} {W : World} {a : Option Addr} {len cap : Nat} {d : DataW H} {p : List MemPlace}
    (h : DataW.Trod enc Tryd.prog W 0 (fun _ => true) true 22 (.slice a len cap) d p) : ∃ ls, ls.length = len ∧ len ≤ maxLen ∧ Chunks W W.heap.size a ls ∧ NilNone W a len := by
  obtain ⟨fuel, hf⟩ := h
  rcases open_int_rows Tryd.underlying22 Tryd.underlying27 Tryd.underlying5 (by kernel_rfl) (by kernel_rfl) hf with ⟨hcs, _⟩ | ⟨x, l, c, A, L, C, Z, hcs, _, hl, hm, _, hrow⟩
  · simp [Value.cells] at hcs
    obtain ⟨rfl, rfl, rfl⟩ := hcs
    exact ⟨[], rfl, by simp, fun k hk => by simp at hk, fun k b o n c hk => by omega⟩
  · simp [Value.cells] at hcs
    obtain ⟨rfl, rfl, rfl⟩ := hcs
    refine ⟨(List.range len).map fun r => ((Z r).take (L r)).map toByte, by simp, by omega, fun k hk => ?_, fun k b o n c hk e hc => ?_⟩
    · simp only [List.length_map, List.length_range] at hk
      obtain ⟨h1, h2, h3, h4, h5, h6, h7⟩ := hrow k (by omega)
      obtain ⟨b, off, spot⟩ := x
      have hspot : spot = none := by simpa [Addr.add] using World.cell?_spot (hrow 0 (by omega)).1
      subst hspot
      rw [add_plain] at h1
      have hlen : (((Z k).take (L k)).map toByte).length = L k := by simp; omega
      refine ⟨b, off, _, ((Z k).take (L k)).map toByte, rfl, World.block_lt_of_cell? W _ h1, h1, by simp [hk], A k, C k, by rw [hlen], by rw [hlen]; exact h2, h3, fun hn => ?_, fun hp => ?_⟩
      · have := h6 hn
        have hL : L k = 0 := by omega
        simp [hL]
      · rw [hlen] at hp
        cases hA : A k with
        | none => have := h6 hA; omega
        | some a' =>
          obtain ⟨_, hcell⟩ := h7 a' hA
          obtain ⟨b', off', spot'⟩ := a'
          have hspot' : spot' = none := by simpa [Addr.add] using World.cell?_spot (hcell 0 (by omega))
          subst hspot'
          have h0 := hcell 0 (by omega)
          rw [add_plain] at h0
          refine ⟨b', off', rfl, World.block_lt_of_cell? W _ h0, fun i y hy => ?_⟩
          have hi : i < L k := by have := (List.getElem?_eq_some_iff.1 hy).1; rw [hlen] at this; exact this
          have hiz : i < (Z k).length := by omega
          have hc := hcell i (by omega)
          rw [add_plain] at hc
          rw [hc]
          simp only [List.getElem?_map, List.getElem?_take, if_pos hi, List.getElem?_eq_getElem hiz, Option.map_some, Option.some.injEq] at hy
          rw [← hy, toByte_toNat (h5 _ (List.getElem_mem hiz))]
          simp [List.getD_eq_getElem?_getD, List.getElem?_eq_getElem hiz]
    · cases e
      obtain ⟨h1, h2, h3, h4, h5, h6, h7⟩ := hrow k (by omega)
      rw [add_plain, hc] at h1
      simp only [Option.some.injEq, Value.slice.injEq] at h1
      obtain ⟨hA, _, hC⟩ := h1
      rw [hC]
      exact h6 hA.symm

end Go.Proofs.Qxb6612609aDoor
