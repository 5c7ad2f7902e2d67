/-
  bytes of a capped writer without a text to follow; the two hands on.
-/
import Derived.Test.Qxb6612609aDoorWrite
import Derived.Test.Qxb6612609aDoorShelf
namespace Go.Proofs.Qxb6612609aDoor
open Go.RowKit

theorem join_flat (ls : List (List UInt8)) : Lib.join ls [] = ls.flatten := by
  cases ls with
  | nil => rfl
  | cons x r => rw [Lib.join_cons]; simp [Lib.joinTail]

theorem cont_flat (ps : List Pc) : cont ps = (ps.map Pc.l).flatten := by simp [cont, List.flatMap]

/-- A new slice of bytes off the shelf. -/
theorem held_of_fresh {B : Nat} {w : World} {v : Value} {l : List UInt8} (h : Lib.FreshBytes B w v l) : Held w (fun _ => True) v l := by
  obtain ⟨g, cap, zs, rfl, _, hl, hm, hz, hr, hb, hc, _⟩ := h
  refine ⟨_, cap, rfl, hl, hm, (fun h => by cases h), fun _ => ⟨g, 0, rfl, trivial, fun i x hx => ?_⟩⟩
  have hi : i < l.length := (List.getElem?_eq_some_iff.1 hx).1
  have hiz : i < zs.length := by omega
  rw [Nat.zero_add, hc i (by omega)]
  rw [← hb] at hx
  simp only [Lib.bytesOf, List.getElem?_map, List.getElem?_take, if_pos hi, List.getElem?_eq_getElem hiz, Option.map_some, Option.some.injEq] at hx
  have := hr _ (List.getElem_mem hiz)
  rw [← hx]
  simp only [List.getD_eq_getElem?_getD, List.getElem?_eq_getElem hiz, Option.getD_some, UInt8.toNat_ofNat']
  congr 2
  omega

theorem held_of_owns {w : World} {B0 g n c : Nat} {l : List UInt8} (h : w.ownsRow B0 5 1 (.slice (some ⟨g, 0, none⟩) n c) n (bytesV l)) (hn : l.length = n) (F : Nat → Prop) (hF : F g) : Held w F (.slice (some ⟨g, 0, none⟩) n c) l := by
  subst hn
  have hcap := owns_cap h
  rcases h.2 with ⟨h', _⟩ | ⟨g', cap, cur, h', _, hh, hlc, hm, hsz, ht⟩
  · cases h'
  · simp only [Value.slice.injEq, Option.some.injEq, Addr.mk.injEq, and_true, true_and] at h'
    obtain ⟨rfl, rfl⟩ := h'
    refine ⟨_, c, rfl, hlc, hm, (fun h => by cases h), fun _ => ⟨g, 0, rfl, hF, fun i x hx => ?_⟩⟩
    have hi : i < l.length := (List.getElem?_eq_some_iff.1 hx).1
    rw [Nat.zero_add, h.cellAt i (by omega)]
    simp [bytesV, hx]

set_option maxRecDepth 100000 in
set_option maxHeartbeats 400000 in
theorem bytes_plain (B0 B : Nat) (F : Nat → Prop) (limit : Int) (ps : List Pc) (over : Bool) (w : World)
    (hc : CapP w B0 F B limit ps over) (hsm : (cont ps).length ≤ 4194304) :
    Calls Tryd.prog 14 #[.pointer (some ⟨B, 0, none⟩)] w fun e w' => ∃ v, e = .returned v ∧ Held w' (fun _ => True) v (cont ps) ∧ Below w.heap.size w w' := by
  obtain ⟨pvv, hblk, hP⟩ := hc.blk
  have hfew := hc.few
  have c2 : w.cell? ⟨B, 2, none⟩ = some (.slice none 0 0) := by rw [cell_of_row _ _ _ _ _ _ hblk]; rfl
  have c3 : w.cell? ⟨B, 3, none⟩ = some pvv := by rw [cell_of_row _ _ _ _ _ _ hblk]; rfl
  clear hblk
  obtain ⟨ao, capp, rfl⟩ := owns_slice hP.row
  have HP : Hid (Pieces w B0 F (.slice ao ps.length capp) ps) := hP
  clear hP hc
  match ps, hfew with
  | [], _ =>
    go_enter Tryd.func14, Tryd.ntmps14
    go_wp2_with fail
    refine (Tryd.bytes_Join_none ao capp _ _).mono ?_
    rintro e w' ⟨rfl, rfl⟩
    go_wp2
    go_ret
    exact ⟨_, rfl, ⟨_, 0, rfl, by simp [cont], by simp, (fun h => by cases h), fun h => by simp [cont] at h⟩, (Below.refl _ _).alloc (Nat.le_refl _) _⟩
  | [q], _ =>
    obtain ⟨g, hao, hrow⟩ := last_at (init := []) HP.out
    subst hao
    have hrow : w.cell? ⟨g, 0, none⟩ = some (.slice (some ⟨q.b, 0, none⟩) q.l.length q.c) := hrow
    have HQ : Hid (w.ownsRow B0 5 1 (.slice (some ⟨q.b, 0, none⟩) q.l.length q.c) q.l.length (bytesV q.l)) := (HP.out.each q (by simp)).2
    go_enter Tryd.func14, Tryd.ntmps14
    go_wp2
    go_ret
    refine ⟨_, rfl, ?_, Below.refl _ _⟩
    rw [cont_one]
    exact held_of_owns HQ.out rfl _ trivial
  | q1 :: q2 :: r, hfew =>
    obtain ⟨g, cap, e, _, _⟩ := HP.out.row.form (by simp)
    simp only [Value.slice.injEq] at e
    obtain ⟨rfl, -, rfl⟩ := e
    have HA : Hid (Lib.PartsAt w ⟨g, 0, none⟩ ((q1 :: q2 :: r).map Pc.val) ((q1 :: q2 :: r).map Pc.l)) := by
      refine ⟨by simp, fun i v hv => ?_, fun i v l hv hl => ?_⟩
      · rw [add_plain, Nat.zero_add, HP.out.row.cellAt i (by have := (List.getElem?_eq_some_iff.1 hv).1; simp at this; simp; omega)]
        exact hv
      · simp only [List.getElem?_map, Option.map_eq_some_iff] at hv hl
        obtain ⟨q, hq, rfl⟩ := hv
        obtain ⟨q', hq', rfl⟩ := hl
        rw [hq] at hq'
        cases hq'
        have hh := held_of_owns (HP.out.each q (List.mem_of_getElem? hq)).2 rfl (fun _ => True) trivial
        obtain ⟨p, c, e, _, _, hn, hc⟩ := hh
        refine ⟨p, c, e, hn, fun a ha i x hx => ?_⟩
        obtain ⟨b, off, hp, _, hcell⟩ := hc (by have := (List.getElem?_eq_some_iff.1 hx).1; omega)
        rw [hp] at ha
        cases ha
        rw [add_plain]
        exact hcell i x hx
    have hlen : (q1 :: q2 :: r).length ≤ 4194305 := by omega
    have hne1 : (((q1 :: q2 :: r).length : Int) == 1) = false := by simp; omega
    have h2 : 2 ≤ (q1 :: q2 :: r).length := by simp
    have hcap : (q1 :: q2 :: r).length ≤ capp := by
      rcases HP.out.row.2 with ⟨h', _⟩ | ⟨g', cap', cur, h', _, _, hlc, _⟩
      · cases h'
      · simp only [Value.slice.injEq] at h'
        omega
    have HL : Hid (Lib.lens ((q1 :: q2 :: r).map Pc.l) = (cont (q1 :: q2 :: r)).length) := by
      unfold Hid
      rw [cont_flat, Lib.lens, List.length_flatten]
    have HN : Hid (((q1 :: q2 :: r).map Pc.l).length = (q1 :: q2 :: r).length) := by simp [Hid]
    clear hfew
    clear HP
    generalize (q1 :: q2 :: r) = ps at *
    generalize hn : ps.length = n at *
    have HE : Hid (ps.length = n) := hn
    clear hn
    go_enter Tryd.func14, Tryd.ntmps14
    go_wp2_with fail
    refine (Tryd.bytes_Join_many g 0 n capp _ _ _ [] w HN.out h2 HA.out hcap ⟨none, 0, rfl, fun _ => rfl, fun a h => by cases h⟩ (by omega) (by have := HL.out; simp; omega)).mono ?_
    rintro e w' ⟨v', rfl, hfr, hbel⟩
    have HF : Hid (Held w' (fun _ => True) v' (cont ps)) := by
      have := held_of_fresh hfr
      rw [join_flat, ← cont_flat] at this
      exact this
    clear hfr
    go_wp2
    go_ret
    exact ⟨_, rfl, HF.out, hbel⟩

set_option maxHeartbeats 1000000 in
theorem bytesOf_plain (B0 B : Nat) (F : Nat → Prop) (limit : Int) (ps : List Pc) (over : Bool) (w : World)
    (hc : CapP w B0 F B limit ps over) (hsm : (cont ps).length ≤ 4194304) :
    Calls Tryd.prog 10 #[.pointer (some ⟨B, 0, none⟩)] w fun e w' => ∃ v, e = .returned v ∧ Held w' (fun _ => True) v (cont ps) ∧ Below w.heap.size w w' := by
  go_enter Tryd.func10, Tryd.ntmps10
  go_wp2_with fail
  refine (bytes_plain B0 B F limit ps over w hc hsm).mono ?_
  rintro e w' ⟨v, rfl, hh, hb⟩
  have HH : Hid (Held w' (fun _ => True) v (cont ps) ∧ Below w.heap.size w w') := ⟨hh, hb⟩
  clear hh hb
  go_wp2
  go_ret
  exact ⟨_, rfl, HH.out⟩

end Go.Proofs.Qxb6612609aDoor
