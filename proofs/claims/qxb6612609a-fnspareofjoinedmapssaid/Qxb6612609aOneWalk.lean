import Derived.Test.Qxb6612609aFit
import Derived.Test.Qxb6612609aMons
namespace Go.Proofs.Qxb6612609a
open Go.RowKit

theorem Strs.below {w w' : World} {a : Option Addr} {n : Nat} (h : Strs w a n) (hb : Below w.heap.size w w') (hold : ∀ b off, a = some ⟨b, off, none⟩ → 0 < n → b < w.heap.size) : Strs w' a n := by
  intro k hk
  obtain ⟨b, off, s, rfl, hc, hs⟩ := h k hk
  exact ⟨b, off, s, rfl, (hb.cell (hold b off rfl (by omega))).trans hc, hs⟩

theorem Strs.old {w : World} {a : Option Addr} {n : Nat} (h : Strs w a n) : ∀ b off, a = some ⟨b, off, none⟩ → 0 < n → b < w.heap.size := by
  intro b off e hn
  obtain ⟨b', off', s, e', hc, hs⟩ := h 0 hn
  rw [e] at e'
  simp at e'
  obtain ⟨rfl, rfl⟩ := e'
  exact World.block_lt_of_cell? w _ hc

theorem cell_alloc_old {w : World} {a : Addr} {v : Value} (h : w.cell? a = some v) (o : Obj) : (w.alloc o).cell? a = some v := by
  have := World.block_lt_of_cell? w a h
  exact (((Below.refl w.heap.size w).alloc (Nat.le_refl _) o).cell (p := a) this).trans h

theorem cell_pair (w : World) (u v : Value) (t : TypeId) : (w.alloc (.cells #[u, v] t)).cell? ⟨w.heap.size, 0 + 1, none⟩ = some v := by
  simp

theorem owned_form {w : World} {base e size n : Nat} {v : Value} {xs : List Value} (h : w.ownsRow base e size v n xs) (hn : 0 < n) : ∃ g c, v = .slice (some ⟨g, 0, none⟩) n c := by
  rcases h.2 with ⟨_, h0⟩ | ⟨g, cap, cur, rfl, _⟩
  · omega
  · exact ⟨g, cap, rfl⟩

set_option maxHeartbeats 1000000 in
theorem one_walk (a b : Option Addr) (la lb ca cb : Nat) (x : ByteArray) (w : World)
    (ha : Strs w a la) (hb : Strs w b lb) (ma : la ≤ maxLen) (mb : lb ≤ maxLen) (mx : x.size ≤ maxLen) :
    Calls Try.prog 3 #[.slice a la ca, .slice b lb cb, .string x] w fun e w' => e = .returned (.bool true) ∧ Below w.heap.size w w' := by
  obtain ⟨i0, hi, hz0, hz1, hz2⟩ := info_parts info33
  go_enter Try.func3, Try.ntmps3
  go_wp2_with fail
  refine (bytesOne_any a b la lb ca cb x w ha hb ma mb mx).mono ?_
  rintro e w' ⟨r, rfl, rfl⟩
  unfold maxLen at ma mb mx
  cases r
  · go_wp2
    go_ret
    exact ⟨rfl, Below.refl _ _⟩
  by_cases h1 : la ≤ 65536
  · by_cases h2 : lb ≤ 65536
    · by_cases h3 : x.size ≤ 1048576
      · go_wp2_with fail
        refine (namesFit_any a b none la lb 0 ca cb 0 x w ha hb (fun k hk => by omega) h1 h2 (by omega) h3).mono ?_
        rintro e w' ⟨r, rfl, rfl⟩
        cases r
        · go_wp2
          go_ret
          exact ⟨rfl, Below.refl _ _⟩
        go_wp2_with fail
        refine (monitors_any a la ca w ha h1 ha.old).mono ?_
        rintro e w1 ⟨g1, c1, xs1, rfl, ho1, hg1, hg1', hb1⟩
        have hs1 : Strs w1 a la := ha.below hb1 ha.old
        have hs2 : ∀ o, Strs (w1.alloc o) a la := fun o => hs1.below ((Below.refl _ _).alloc (Nat.le_refl _) o) hs1.old
        go_wp2_with fail
        refine (monitors_any a la ca _ (hs2 _) h1 (hs2 _).old).mono ?_
        rintro e w2 ⟨g2, c2, xs2, rfl, ho2, hg2, hg2', hb2⟩
        have hsz := hb1.size
        simp only [World.size_alloc] at ho2 hg2 hb2
        have hq : w2.cell? ⟨w1.heap.size, 1, none⟩ = some (.slice (some ⟨g1, 0, none⟩) la c1) := (hb2.cell (p := ⟨w1.heap.size, 1, none⟩) (by simp)).trans (by simp)
        go_wp2_with (at_builtin; refine wpList_append_own _ rfl _ _ 26 rfl (w1.heap.size + 1) 33 i0 (.agg #[.string ⟨#[]⟩]) 1 16 Try.underlying26 hi hz0 hz1 hz2 rfl (by decide) _ _ _ rfl (ho2.alloc _) ⟨w2.heap.size, 0, none⟩ 1 1 [.string x] rfl rfl (cell_one_new _ _ _) (by intro u hu; simp at hu; subst hu; rfl) (by unfold maxLen; omega) (by omega) (by simp; omega) ?_; intro v3 w3 ho3 hgr3 _; obtain ⟨g3, c3, hv3⟩ := owned_form ho3 (by omega); rw [hv3])
        have hgr3 : (w2.alloc (.cells #[.string x] 33)).grownBy w3 (some g2) := hgr3
        have s2 := hb2.size
        have s3 := hgr3.size
        simp only [World.size_alloc] at s2 s3
        have hq3 : w3.cell? ⟨w1.heap.size, 1, none⟩ = some (.slice (some ⟨g1, 0, none⟩) la c1) := hgr3.cell (a := ⟨w1.heap.size, 1, none⟩) (cell_alloc_old hq _) (by simp; omega)
        have hbel : Below w.heap.size w w3 := by
          have k1 : Below w.heap.size w w2 := (hb1.trans ((Below.refl _ _).alloc (by omega) _)).trans (hb2.mono (by omega))
          exact (k1.alloc (by omega) _).grown hgr3 (by simp; omega) (fun j hj => by cases hj; omega)
        refine (spare_any w1.heap.size 0 _ la _ _ (by omega) (cell_alloc_old hq3 _)).mono ?_
        rintro e w4 ⟨s, rfl, hs, rfl⟩
        clear hq hq3 hgr3 ho3 ho2 hs1 hs2 ha hb
        go_wp2_with fail
        refine (spare_any w3.heap.size 0 _ (la + 1) _ _ (by omega) (cell_pair _ _ _ _)).mono ?_
        rintro e w4 ⟨s', rfl, hs', rfl⟩
        have b1 : 0 ≤ s := by omega
        have b2 : s ≤ 65536 := by omega
        have b3 : s ≤ s' := by omega
        have b4 : s' ≤ s + 1 := by omega
        have b5 : s' ≤ 70000 := by omega
        have H1 : Hid (((la : Int) = 0 ∧ s = 0) ∨ (0 < (la : Int) ∧ s = ((la : Int) - 1) / 2)) := hs
        have H2 : Hid ((((la + 1 : Nat) : Int) = 0 ∧ s' = 0) ∨ (0 < ((la + 1 : Nat) : Int) ∧ s' = (((la + 1 : Nat) : Int) - 1) / 2)) := hs'
        clear hs hs'
        go_wp2_with fail
        refine (greatest_any (la : Int) s _ (by omega) (by omega) H1.out).mono ?_
        rintro e w4 ⟨rfl, rfl⟩
        go_wp2_with fail
        refine (greatest_any ((la : Int) + 1) s' _ (by omega) (by omega) (by have := H2.out; omega)).mono ?_
        rintro e w4 ⟨rfl, rfl⟩
        go_wp2
        go_ret
        exact ⟨rfl, hbel.alloc (by omega) _⟩
      · go_wp2
        go_ret
        exact ⟨rfl, Below.refl _ _⟩
    · go_wp2
      go_ret
      exact ⟨rfl, Below.refl _ _⟩
  · go_wp2
    go_ret
    exact ⟨rfl, Below.refl _ _⟩

end Go.Proofs.Qxb6612609a
