import Derived.Test.Qxb6612609aOneWalk
namespace Go.Proofs.Qxb6612609a
open Go.RowKit

theorem cell_pair2 (w : World) (o : Obj) (u v : Value) (t : TypeId) : ((w.alloc o).alloc (.cells #[u, v] t)).cell? ⟨w.heap.size + 1, 0 + 1, none⟩ = some v := by
  have := cell_pair (w.alloc o) u v t
  rwa [World.size_alloc] at this

set_option maxHeartbeats 2000000 in
theorem join_walk (a b c : Option Addr) (la lb lc ca cb cc : Nat) (w : World)
    (ha : Strs w a la) (hb : Strs w b lb) (hc : Strs w c lc) (ma : la ≤ maxLen) (mb : lb ≤ maxLen) (mc : lc ≤ maxLen) :
    Calls Try.prog 4 #[.slice a la ca, .slice b lb cb, .slice c lc cc] w fun e w' => e = .returned (.bool true) ∧ Below w.heap.size w w' := by
  obtain ⟨i0, hi, hz0, hz1, hz2⟩ := info_parts info33
  go_enter Try.func4, Try.ntmps4
  go_wp2_with fail
  refine (bytesJoin_any a b c la lb lc ca cb cc w ha hb hc ma mb mc).mono ?_
  rintro e w' ⟨r, rfl, rfl⟩
  unfold maxLen at ma mb mc
  cases r
  · go_wp2
    go_ret
    exact ⟨rfl, Below.refl _ _⟩
  by_cases h1 : la ≤ 65536
  · by_cases h2 : lb ≤ 65536
    · by_cases h3 : lc ≤ 65536
      · go_wp2_with fail
        refine (namesFit_any a b c la lb lc ca cb cc ⟨#[]⟩ w ha hb hc h1 h2 h3 (by decide)).mono ?_
        rintro e w' ⟨r, rfl, rfl⟩
        cases r
        · go_wp2
          go_ret
          exact ⟨rfl, Below.refl _ _⟩
        go_wp2_with fail
        refine (monitors_any a la ca w ha h1 ha.old).mono ?_
        rintro e w1 ⟨g1, c1, xs1, rfl, ho1, hg1, hg1', hb1⟩
        go_wp2
        go_loopw [7, 8] (fun v i wr => ∃ (k : Nat) (g cap : Nat) (xs : List Value), k ≤ lb ∧ i = .int .i64 k ∧ v = .slice (some ⟨g, 0, none⟩) (la + k) cap ∧ wr.ownsRow w.heap.size 33 1 (.slice (some ⟨g, 0, none⟩) (la + k) cap) (la + k) xs ∧ Below w.heap.size w wr)
          (fun _ i _ => lb - (intOf i).toNat)
        case atStart => exact ⟨0, g1, c1, xs1, by omega, rfl, rfl, ho1, hb1⟩
        case round =>
          obtain ⟨k, g, cap, xs, hk, rfl, rfl, hown, hnx⟩ := hrel
          have hsz := hnx.size
          by_cases hlt : k < lb
          · obtain ⟨pb, po, s, rfl, hcell0, hs⟩ := hb k hlt
            have hob := hb.old pb po rfl (by omega)
            have hcell : wr.cell? ⟨pb, po + k, none⟩ = some (.string s) := (hnx.cell hob).trans hcell0
            clear hcell0
            go_wp2_with (at_builtin; refine wpList_append_own _ rfl _ _ 26 rfl w.heap.size 33 i0 (.agg #[.string ⟨#[]⟩]) 1 16 Try.underlying26 hi hz0 hz1 hz2 rfl (by decide) _ _ _ rfl (hown.alloc _) ⟨wr.heap.size, 0, none⟩ 1 1 [.string s] rfl rfl (cell_one_new _ _ _) (by intro u hu; simp at hu; subst hu; rfl) (by unfold maxLen; omega) (by omega) (by simp; omega) ?_; intro v3 w3 ho3 hgr3 _; obtain ⟨g3, c3, hv3⟩ := owned_form ho3 (by omega); rw [hv3])
            have hgr3 : (wr.alloc (.cells #[.string s] 33)).grownBy w3 (some g) := hgr3
            rw [hv3] at ho3
            go_roundw
            case rel => exact ⟨k + 1, g3, c3, _, by omega, by go_num, rfl, ho3, (hnx.alloc (by omega) _).grown hgr3 (by simp; omega) (fun j hj => by cases hj; exact (hown.lt g rfl).1)⟩
            case measure => simp [intOf]; omega
          · have hkl : k = lb := by omega
            subst hkl
            have hs1 : Strs wr a la := ha.below hnx ha.old
            have hs2 : Strs wr b k := hb.below hnx hb.old
            have hgl := (hown.lt g rfl).2
            clear hown
            go_wp2_with fail
            refine (monitors_any a la ca wr hs1 h1 hs1.old).mono ?_
            rintro e w2 ⟨g2, c2, xs2, rfl, ho2, hg2, hg2', hb2⟩
            have hs3 : ∀ o, Strs (w2.alloc o) b k := fun o => by
              have t := hs2.below hb2 hs2.old
              exact t.below ((Below.refl _ _).alloc (Nat.le_refl _) o) t.old
            go_wp2_with fail
            refine (monitors_any b k cb _ (hs3 _) h2 (hs3 _).old).mono ?_
            rintro e w3 ⟨g3, c3, xs3, rfl, ho3, hg3, hg3', hb3⟩
            simp only [World.size_alloc] at ho3 hg3 hb3
            have hq2 : w3.cell? ⟨w2.heap.size, 0 + 1, none⟩ = some (.slice (some ⟨g2, 0, none⟩) la c2) := (hb3.cell (p := ⟨w2.heap.size, 0 + 1, none⟩) (by simp)).trans (cell_pair _ _ _ _)
            have z2 := hb2.size
            have z3 := hb3.size
            simp only [World.size_alloc] at z3
            have hbel : Below w.heap.size w w3 := (hnx.trans ((hb2.mono hsz).trans ((Below.refl _ _).alloc (by omega) _))).trans (hb3.mono (by omega))
            clear ho3 ho2 hs1 hs2 hs3 hb3 hb2 hnx
            go_wp2_with fail
            refine (spare_any w2.heap.size 0 _ la _ _ (by omega) (cell_alloc_old (cell_alloc_old hq2 _) _)).mono ?_
            rintro e w4 ⟨sa, rfl, hsa, rfl⟩
            go_wp2_with fail
            refine (spare_any w3.heap.size 0 _ k _ _ (by omega) (cell_alloc_old (cell_pair _ _ _ _) _)).mono ?_
            rintro e w4 ⟨sb, rfl, hsb, rfl⟩
            go_wp2_with fail
            refine (spare_any (w3.heap.size + 1) 0 _ (la + k) _ _ (by omega) (cell_pair2 _ _ _ _ _)).mono ?_
            rintro e w4 ⟨sj, rfl, hsj, rfl⟩
            have d1 : 0 ≤ sa := by omega
            have d2 : sa ≤ 70000 := by omega
            have d3 : 0 ≤ sb := by omega
            have d4 : sb ≤ 70000 := by omega
            have d5 : sa + sb ≤ sj := by omega
            have d6 : sj ≤ sa + sb + 1 := by omega
            have H1 : Hid (((la : Int) = 0 ∧ sa = 0) ∨ (0 < (la : Int) ∧ sa = ((la : Int) - 1) / 2)) := hsa
            have H2 : Hid (((k : Int) = 0 ∧ sb = 0) ∨ (0 < (k : Int) ∧ sb = ((k : Int) - 1) / 2)) := hsb
            have H3 : Hid ((((la + k : Nat) : Int) = 0 ∧ sj = 0) ∨ (0 < ((la + k : Nat) : Int) ∧ sj = (((la + k : Nat) : Int) - 1) / 2)) := hsj
            clear hsa hsb hsj hq2
            go_wp2_with fail
            refine (greatest_any (la : Int) sa _ (by omega) (by omega) H1.out).mono ?_
            rintro e w4 ⟨rfl, rfl⟩
            go_wp2_with fail
            refine (greatest_any (k : Int) sb _ (by omega) (by omega) H2.out).mono ?_
            rintro e w4 ⟨rfl, rfl⟩
            go_wp2_with fail
            refine (greatest_any ((la : Int) + (k : Int)) sj _ (by omega) (by omega) (by have := H3.out; omega)).mono ?_
            rintro e w4 ⟨rfl, rfl⟩
            go_wp2
            go_ret
            exact ⟨rfl, (hbel.alloc (by omega) _).alloc (by simp; omega) _⟩
      · go_wp2
        go_ret
        exact ⟨rfl, Below.refl _ _⟩
    · go_wp2
      go_ret
      exact ⟨rfl, Below.refl _ _⟩
  · go_wp2
    go_ret
    exact ⟨rfl, Below.refl _ _⟩

end Go.Proofs.Qxb6612609a
