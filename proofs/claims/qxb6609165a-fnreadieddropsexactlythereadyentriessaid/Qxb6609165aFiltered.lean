/-
  zzFilteredIs.
-/
import Derived.Test.Qxb6609165aSame
namespace Go.Proofs.Qxb6609165a
open Go.RowKit

theorem stay_at {rd : Nat → ByteArray → Bool} {k : Nat} {es : List (ByteArray × Int)} {j : Nat} {x : ByteArray × Int} (h : es[j]? = some x) (hr : rd k x.1 = false) : (stay rd k es)[(stay rd k (es.take j)).length]? = some x := by
  obtain ⟨hj, rfl⟩ := List.getElem?_eq_some_iff.mp h
  have he : es = es.take j ++ es[j] :: es.drop (j + 1) := by rw [← List.drop_eq_getElem_cons hj, List.take_append_drop]
  have hs : stay rd k es = stay rd k (es.take j) ++ es[j] :: stay rd k (es.drop (j + 1)) := by
    conv => lhs; rw [he]
    unfold stay
    rw [List.filter_append, List.filter_cons]
    simp [hr]
  rw [hs]
  simp

/-- The nil-ness of slot lists as Readied leaves it. -/
def NilFits (rd : Nat → ByteArray → Bool) (k : Nat) (es : List (ByteArray × Int)) (u v : Value) : Prop :=
  ((∀ x ∈ es, rd k x.1 = false) → (u = .slice none 0 0 ↔ v = .slice none 0 0)) ∧ ((∃ x ∈ es, rd k x.1 = true) → (u = .slice none 0 0 ↔ stay rd k es = []))

theorem nil_iff {p : Option Addr} {n c : Nat} (hz : p = none → n = 0 ∧ c = 0) : (Value.slice p n c = .slice none 0 0) ↔ p.isNone = true := by
  constructor
  · intro h
    injection h with h
    rw [h]
    rfl
  · intro h
    obtain rfl : p = none := by simpa using h
    obtain ⟨rfl, rfl⟩ := hz rfl
    rfl

set_option maxRecDepth 50000 in
set_option maxHeartbeats 2000000 in
theorem filtered_any (u v rv : Value) (es : List (ByteArray × Int)) (rl : List (Int × ByteArray)) (i : Nat) (w : World) (hu : NRL w u (stay (rdOf rl) i es)) (hv : NRL w v es) (hr : RL w rv rl) (hnf : NilFits (rdOf rl) i es u v) :
    Calls Try.prog 22 #[u, v, rv, .int .i64 i] w (Quietly w) := by
  obtain ⟨p, cap, rfl, hl, hm, hz, HC⟩ := hu.opened
  obtain ⟨p', cap', rfl, hl', hm', hz', HC'⟩ := hv.opened
  have HR : Hid (RL w rv rl) := hr
  obtain ⟨pr, cr, rfl, -⟩ := hr.opened
  have HNF : Hid (((∀ x ∈ es, rdOf rl i x.1 = false) → p.isNone = p'.isNone) ∧ ((∃ x ∈ es, rdOf rl i x.1 = true) → (stay (rdOf rl) i es).length = 0 → p.isNone = true)) := by
    refine ⟨fun h => ?_, fun h h0 => ?_⟩
    · have := hnf.1 h
      rw [nil_iff (fun e => ⟨by rw [(hz e).1]; rfl, (hz e).2⟩), nil_iff (fun e => ⟨by rw [(hz' e).1]; rfl, (hz' e).2⟩)] at this
      exact Bool.eq_iff_iff.mpr this
    · have := (hnf.2 h).mpr (List.length_eq_zero_iff.mp h0)
      rwa [nil_iff (fun e => ⟨by rw [(hz e).1]; rfl, (hz e).2⟩)] at this
  clear hu hv hz hz' hnf hr
  unfold maxLen at hm hm'
  have q58 := nil58
  have q39 := nil39
  go_enter Try.func22, Try.ntmps22
  go_wp2
  go_loopw [9, 10, 11] (fun kv rv jv wr => (∃ m, wr = w.drewN m) ∧ ∃ (j : Nat) (rm : Bool), j ≤ es.length ∧ jv = .int .i64 j ∧ kv = .int .i64 ((stay (rdOf rl) i (es.take j)).length : Nat) ∧ rv = .bool rm ∧ (rm = true ↔ ∃ x ∈ es.take j, rdOf rl i x.1 = true)) (fun _ _ jv _ => es.length - (intOf jv).toNat)
  case atStart => exact ⟨⟨0, rfl⟩, 0, false, by omega, rfl, by simp [stay], rfl, by simp⟩
  case round =>
    obtain ⟨⟨m, hm0⟩, j, rm, hj, rfl, rfl, rfl, hrm⟩ := hrel
    have hb : Below w.heap.size w wr := by rw [hm0]; exact below_drewN (Below.refl _ _) m
    have HM : Hid (wr = w.drewN m) := hm0
    clear hm0
    have HB : Hid (Below w.heap.size w wr) := hb
    have HRM : Hid (rm = true ↔ ∃ x ∈ es.take j, rdOf rl i x.1 = true) := hrm
    have hcl := split_len (rdOf rl) i (es.take j)
    have htl : (es.take j).length = j := by rw [List.length_take]; omega
    have hcl' := split_len (rdOf rl) i es
    clear hrm
    by_cases hjt : j < es.length
    · obtain ⟨xa, xs, hx⟩ := get_nr hjt
      obtain ⟨nb, noff, rfl, f1, f2, -⟩ := HC'.out j _ hx
      replace f1 := cell_later hb f1
      replace f2 := cell_later hb f2
      dsimp only at f1 f2
      have HCA : Hid (Calls Try.prog 19 #[.slice pr rl.length cr, .int .i64 i, .string xa] wr (fun e w' => e = .returned (.bool (isReady rl i xa)) ∧ wr = w')) := isReady_any _ rl _ _ _ (HR.out.later hb)
      have HSU := stay_succ (rd := rdOf rl) (k := i) hx
      have HTN : Hid (∀ y, y ∈ es.take (j + 1) ↔ y ∈ es.take j ∨ y = (xa, xs)) := fun y => by rw [List.take_add_one, hx]; simp
      cases hrd : isReady rl i xa
      · have hat := stay_at (rd := rdOf rl) (k := i) hx hrd
        have hlt2 := (List.getElem?_eq_some_iff.mp hat).1
        obtain ⟨gb, goff, rfl, g1, g2, -⟩ := HC.out _ _ hat
        replace g1 := cell_later hb g1
        replace g2 := cell_later hb g2
        dsimp only at g1 g2
        have hsl : (stay (rdOf rl) i (es.take (j + 1))).length = (stay (rdOf rl) i (es.take j)).length + 1 := by
          rw [HSU, show rdOf rl i (xa, xs).1 = false from hrd]
          simp
        rw [hrd] at HCA
        clear hx hat HSU hb
        generalize hk : (stay (rdOf rl) i (es.take j)).length = k at *
        generalize hn : (stay (rdOf rl) i es).length = n at *
        generalize hk1 : (stay (rdOf rl) i (es.take (j + 1))).length = k1 at *
        have hdec : decide ((n : Int) ≤ (k : Int)) = false := by simp; omega
        go_wp2_with (go_at_call 19; refine HCA.out.mono ?_; rintro e w' ⟨rfl, rfl⟩)
        go_quiet (fail)
        have hbd : ∃ m, wr.drewN nq = w.drewN m := ⟨m + nq, by rw [HM.out, World.drewN_drewN]⟩
        generalize wr.drewN nq = w5 at *
        go_wp2
        refine ⟨⟨hbd, j + 1, rm, by omega, by go_num, by rw [hk1, hsl]; go_num, rfl, ?_⟩, by simp [intOf]; omega⟩
        rw [HRM.out]
        constructor
        · rintro ⟨y, hy, hr⟩
          exact ⟨y, (HTN.out y).mpr (.inl hy), hr⟩
        · rintro ⟨y, hy, hr⟩
          rcases (HTN.out y).mp hy with hy | rfl
          · exact ⟨y, hy, hr⟩
          · rw [show rdOf rl i (xa, xs).1 = false from hrd] at hr
            simp at hr
      · have hsl : (stay (rdOf rl) i (es.take (j + 1))).length = (stay (rdOf rl) i (es.take j)).length := by
          rw [HSU, show rdOf rl i (xa, xs).1 = true from hrd]
          simp
        rw [hrd] at HCA
        clear hx HSU hb
        generalize hk : (stay (rdOf rl) i (es.take j)).length = k at *
        generalize hk1 : (stay (rdOf rl) i (es.take (j + 1))).length = k1 at *
        go_wp2_with (go_at_call 19; refine HCA.out.mono ?_; rintro e w' ⟨rfl, rfl⟩)
        exact ⟨⟨⟨m, HM.out⟩, j + 1, true, by omega, by go_num, by rw [hk1, hsl], rfl, ⟨fun _ => ⟨_, (HTN.out _).mpr (.inr rfl), hrd⟩, fun _ => rfl⟩⟩, by simp [intOf]; omega⟩
    · obtain rfl : j = es.length := by omega
      rw [List.take_length] at hcl HRM ⊢
      have HEND : Hid ((rm = false → p.isNone = p'.isNone) ∧ (rm = true → (stay (rdOf rl) i es).length = 0 → p.isNone = true)) := by
        refine ⟨fun h => HNF.out.1 fun x hx => ?_, fun h => HNF.out.2 (HRM.out.mp h)⟩
        cases hxx : rdOf rl i x.1
        · rfl
        · have := HRM.out.mpr ⟨x, hx, hxx⟩
          rw [h] at this
          simp at this
      generalize hn : (stay (rdOf rl) i es).length = n at *
      clear hb
      cases rm
      · have HE : Hid (p.isNone = p'.isNone) := HEND.out.1 rfl
        clear HEND HNF
        go_wp2
        go_ret
        exact ⟨ret_bool (by rw [HE.out]; simp), m, HM.out⟩
      · by_cases hn0 : n = 0
        · have he := HEND.out.2 rfl hn0
          subst hn0
          go_wp2
          go_ret
          exact ⟨rfl, m, HM.out⟩
        · go_wp2
          go_ret
          exact ⟨rfl, m, HM.out⟩

end Go.Proofs.Qxb6609165a
