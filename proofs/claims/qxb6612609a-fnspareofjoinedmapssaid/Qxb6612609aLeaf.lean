/-
  The leaves of the two Spare laws: Spare, zzSpareIsGreatest, zzNamesFit, the two length guards.
-/
import Derived.Test.Qxb6612609aRows
import Derived.WalkKit
import Derived.WalkSpells
import Derived.WalkLawsBesides
namespace Go.Proofs.Qxb6612609a
open Go.RowKit

/-- What a walk is told of a slice of strings that came in: each element's cell holds a string. -/
def Strs (w : World) (ao : Option Addr) (len : Nat) : Prop :=
  ∀ k, k < len → ∃ b off s, ao = some ⟨b, off, none⟩ ∧ w.cell? ⟨b, off + k, none⟩ = some (.string s) ∧ s.size ≤ maxLen

set_option maxHeartbeats 400000 in
theorem greatest_any (n s : Int) (w : World) (h0 : 0 ≤ n) (h1 : n ≤ 200000) (hs : (n = 0 ∧ s = 0) ∨ (0 < n ∧ s = (n - 1) / 2)) :
    Calls Try.prog 9 #[.int .i64 n, .int .i64 s] w fun e w' => e = .returned (.bool true) ∧ w = w' := by
  by_cases hn : n = 0
  · have hz : s = 0 := by omega
    subst hn; subst hz
    go_enter Try.func9, Try.ntmps9
    go_wp2
    go_ret
    exact ⟨rfl, rfl⟩
  · have hb : (n == 0) = false := by simpa using hn
    have a1 : 0 ≤ s := by omega
    have a2 : n < 2 * (n - s) := by omega
    have a3 : 2 * (n - s - 1) ≤ n := by omega
    have a4 : s ≤ 200000 := by omega
    clear hs hn
    go_enter Try.func9, Try.ntmps9
    go_wp2
    go_ret
    exact ⟨rfl, rfl⟩

set_option maxHeartbeats 400000 in
theorem spare_any (b off : Nat) (a : Option Addr) (n c : Nat) (w : World) (hn : n ≤ 200000)
    (hcell : w.cell? ⟨b, off + 1, none⟩ = some (.slice a n c)) :
    Calls Try.prog 8 #[.pointer (some ⟨b, off, none⟩)] w fun e w' => ∃ s : Int, e = .returned (.int .i64 s) ∧ (((n : Int) = 0 ∧ s = 0) ∨ (0 < (n : Int) ∧ s = ((n : Int) - 1) / 2)) ∧ w = w' := by
  by_cases h : n = 0
  · subst h
    go_enter Try.func8, Try.ntmps8
    go_wp2
    go_ret
    exact ⟨0, rfl, by simp, rfl⟩
  · go_enter Try.func8, Try.ntmps8
    go_wp2
    go_ret
    exact ⟨_, rfl, by omega, rfl⟩

end Go.Proofs.Qxb6612609a
