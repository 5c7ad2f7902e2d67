/-
  Write on a capped writer without a text to follow; the constructor.
-/
import Derived.Test.Qxb6612609aDoorKeepParts
import Derived.Deep.QuietTactic
import Derived.BigQuiet
namespace Go.Proofs.Qxb6612609aDoor
open Go.RowKit

/-- What keep does: proved in DoorKeep. -/
def KeepSaid : Prop := ∀ (B0 B : Nat) (F Fp : Nat → Prop) (limit : Int) (ps : List Pc) (over : Bool) (pv : Value) (p : List UInt8) (w : World),
    CapP w B0 F B limit ps over → Held w Fp pv p → (∀ b, Fp b → b < w.heap.size ∧ ¬ F b) →
    ((cont ps).length : Int) + (p.length : Int) ≤ limit → limit ≤ 9223372036854775807 → (cont ps).length + p.length ≤ 4194304 → B0 ≤ w.heap.size →
    Calls Tryd.prog 16 #[.pointer (some ⟨B, 0, none⟩), pv] w fun e w' => ∃ ps', e = .returned (.tuple #[]) ∧ CapP w' B0 (Fr F w w') B limit ps' over ∧ cont ps' = cont ps ++ p ∧ Only F w w'

/-- One write: what is kept, and whether one has passed the limit. -/
def stepB (limit : Int) (c : List UInt8) (o : Bool) (p : List UInt8) : Bool := o || decide (limit < (c.length : Int) + (p.length : Int))

def stepC (limit : Int) (c : List UInt8) (o : Bool) (p : List UInt8) : List UInt8 := if stepB limit c o p then c else c ++ p

set_option maxHeartbeats 400000 in
theorem new_any (limit : Int) (lk : Value) (w : World) (lao : Option Addr) (ln lc : Nat) (hlk : lk = .slice lao ln lc) :
    Calls Tryd.prog 7 #[.int .i64 limit, lk] w fun e w' => e = .returned (.pointer (some ⟨w.heap.size, 0, none⟩)) ∧ w.alloc (.cells #[.int .i64 limit, .nilFunc, lk, .slice none 0 0, .int .i64 0, .bool false] 37) = w' := by
  subst hlk
  go_enter Tryd.func7, Tryd.ntmps7
  go_wp2
  go_ret
  exact ⟨rfl, rfl⟩

theorem neq_nilFunc (W : World) : (binOp .neq 1 .nilFunc .nilFunc).run Tryd.prog W = .ok (.bool false) W := by kernel_rfl

theorem Held.drewN {w : World} {F : Nat → Prop} {v : Value} {l : List UInt8} (h : Held w F v l) (n : Nat) : Held (w.drewN n) F v l := h

/-- Over. -/
theorem capP_over {w : World} {B0 : Nat} {F : Nat → Prop} {B : Nat} {limit : Int} {ps : List Pc} {over : Bool} (h : CapP w B0 F B limit ps over) (n : Nat) : CapP ((w.drewN n).setCell ⟨B, 5, none⟩ (.bool true)) B0 (Fr F w ((w.drewN n).setCell ⟨B, 5, none⟩ (.bool true))) B limit ps true ∧ Only F w ((w.drewN n).setCell ⟨B, 5, none⟩ (.bool true)) := by
  have h' : CapP (w.drewN n) B0 F B limit ps over := h.kept (fun _ _ => rfl) (fun _ hk => hk)
  obtain ⟨pv, hb, hp⟩ := h'.blk
  refine ⟨⟨⟨pv, ?_, ?_⟩, .inl h.inF, h.ge, h.few⟩, (Only.drewN F w n).trans (Only.setCell h.inF _) (fun _ _ hf => hf)⟩
  · rw [heap_set hb]; simp
  · exact (hp.setB hb (i := 5) (.bool true)).kept (fun _ _ => rfl) (fun k hk => .inl hk)

set_option maxRecDepth 100000 in
set_option maxHeartbeats 2000000 in
theorem write_plain (hkeep : KeepSaid) (B0 B : Nat) (F Fp : Nat → Prop) (limit : Int) (ps : List Pc) (over : Bool) (pv : Value) (p : List UInt8) (w : World)
    (hc : CapP w B0 F B limit ps over) (hp : Held w Fp pv p) (hFp : ∀ b, Fp b → b < w.heap.size ∧ ¬ F b)
    (hlim : limit ≤ 9223372036854775807) (hsm : (cont ps).length + p.length ≤ 4194304) (hB0 : B0 ≤ w.heap.size) :
    Calls Tryd.prog 13 #[.pointer (some ⟨B, 0, none⟩), pv] w fun e w' => e = .returned (.tuple #[.int .i64 (p.length : Int), .nilIface]) ∧
      ∃ ps', CapP w' B0 (Fr F w w') B limit ps' (stepB limit (cont ps) over p) ∧ cont ps' = stepC limit (cont ps) over p ∧ Only F w w' := by
  obtain ⟨pvv, hblk, hP⟩ := hc.blk
  obtain ⟨s, hs⟩ : ∃ s, (cont ps).length = s := ⟨_, rfl⟩
  rw [hs] at hblk hsm
  have c0 : w.cell? ⟨B, 0, none⟩ = some (.int .i64 limit) := by rw [cell_of_row _ _ _ _ _ _ hblk]; rfl
  have c1 : w.cell? ⟨B, 1, none⟩ = some .nilFunc := by rw [cell_of_row _ _ _ _ _ _ hblk]; rfl
  have c2 : w.cell? ⟨B, 2, none⟩ = some (.slice none 0 0) := by rw [cell_of_row _ _ _ _ _ _ hblk]; rfl
  have c4 : w.cell? ⟨B, 4, none⟩ = some (.int .i64 s) := by rw [cell_of_row _ _ _ _ _ _ hblk]; rfl
  have c5 : w.cell? ⟨B, 5, none⟩ = some (.bool over) := by rw [cell_of_row _ _ _ _ _ _ hblk]; rfl
  have f5 : w.frozen? ⟨B, 5, none⟩ = false := frozen_of_row _ _ _ _ _ hblk
  have HC : Hid (CapP w B0 F B limit ps over) := hc
  have HS : Hid ((cont ps).length = s) := hs
  clear hc hblk hP hs
  have hp' := hp
  obtain ⟨pp, cp, rfl, hl, hm, _, _⟩ := hp
  obtain ⟨n, hn⟩ : ∃ n, p.length = n := ⟨_, rfl⟩
  have HN : Hid (p.length = n) := hn
  rw [hn] at hsm
  simp only [hn]
  have HP : Hid (Held w Fp (.slice pp n cp) p) := by rw [hn] at hp'; exact hp'
  clear hp' hl hn
  have hfn : ∀ W : World, (binOp .neq 1 .nilFunc .nilFunc).run Tryd.prog W = .ok (.bool false) W := neq_nilFunc
  have hsum : IntKind.i64.wrap ((s : Int) + (n : Int)) = (s : Int) + (n : Int) := by rw [IntKind.wrap_i64]; omega
  by_cases hb : stepB limit (cont ps) over p = true
  · have HB : Hid (stepB limit (cont ps) over p = true) := hb
    have hcase : over = true ∨ over = false ∧ limit < (s : Int) + (n : Int) := by
      have := HS.out; have := HN.out
      cases over
      · right; simp [stepB] at hb; exact ⟨rfl, by omega⟩
      · exact .inl rfl
    clear hb
    rcases hcase with rfl | ⟨rfl, hlt⟩
    · go_enter Tryd.func13, Tryd.ntmps13
      go_wp2
      go_quiet (fail)
      go_wp2
      go_ret2
      refine ⟨rfl, ps, ?_, ?_, (capP_over HC.out _).2⟩
      · rw [HB.out]; exact (capP_over HC.out _).1
      · unfold stepC; rw [HB.out]; rfl
    · go_enter Tryd.func13, Tryd.ntmps13
      go_wp2
      go_quiet (fail)
      go_wp2
      go_ret2
      refine ⟨rfl, ps, ?_, ?_, (capP_over HC.out _).2⟩
      · rw [HB.out]; exact (capP_over HC.out _).1
      · unfold stepC; rw [HB.out]; rfl
  · have HB : Hid (stepB limit (cont ps) over p = false) := by simpa [Hid] using hb
    have hcase : over = false ∧ (s : Int) + (n : Int) ≤ limit := by
      have := HS.out; have := HN.out
      cases over
      · refine ⟨rfl, ?_⟩; simp [stepB] at hb; omega
      · simp [stepB] at hb
    clear hb
    obtain ⟨rfl, hle⟩ := hcase
    go_enter Tryd.func13, Tryd.ntmps13
    go_wp2
    go_quiet (fail)
    go_wp2_with fail
    refine (hkeep B0 B F Fp limit ps false _ p (w.drewN nq) (HC.out.kept (fun _ _ => rfl) (fun _ hk => hk)) (HP.out.drewN _) hFp (by rw [HS.out, HN.out]; exact hle) hlim (by rw [HS.out, HN.out]; exact hsm) hB0).mono ?_
    rintro e w' ⟨ps', rfl, hcap, hcont, honly⟩
    have HR : Hid (CapP w' B0 (Fr F (w.drewN nq) w') B limit ps' false ∧ cont ps' = cont ps ++ p ∧ Only F (w.drewN nq) w') := ⟨hcap, hcont, honly⟩
    clear hcap hcont honly
    go_wp2
    go_ret2
    obtain ⟨hcap, hcont, honly⟩ := HR.out
    refine ⟨rfl, ps', ?_, ?_, (Only.drewN F w _).trans honly (fun _ _ h => h)⟩
    · rw [HB.out]; exact hcap
    · unfold stepC; rw [HB.out]; exact hcont

end Go.Proofs.Qxb6612609aDoor
