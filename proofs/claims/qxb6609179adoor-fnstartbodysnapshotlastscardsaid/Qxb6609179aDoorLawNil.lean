/-
  FnStartBodySnapshotLasts: the walk where the keys are nil.
-/
import Derived.Test.Qxb6609179aDoorSame
import Derived.Test.Qxb6609179aDoorGuard
import Derived.Test.Qxb6609179aDoorWriter
namespace Go.Proofs.Qxb6609179aDoor
open Go.RowKit Go.MapKept

/-- It says true, and writes nothing that stood. -/
def SaysTrue (w : World) (e : Ending) (w' : World) : Prop := e = .returned (.bool true) ∧ Below w.heap.size w w'

theorem neqmap30 (w : World) (r : Option Nat) : (binOp .neq 30 (.map r) (.map none)).run Tryd.prog w = .ok (.bool r.isSome) w := by
  simp only [binOp]
  simp [Op.equal, Op.maxDepth, run_equalIn_map_nil (P := Tryd.prog) w 9999 30 9 22 r Tryd.underlying30]

set_option maxHeartbeats 1000000 in
theorem sameHeader_nil (kv : Value) (w : World) (hk : kv = .slice none 0 0) : Calls Tryd.prog 14 #[.map none, .map none, kv, .int .i64 0] w (fun e w' => e = .returned (.bool true) ∧ w = w') := by
  subst hk
  have q30 := eqlmap30
  go_enter Tryd.func14, Tryd.ntmps14
  go_wp2
  go_loop [9] (fun iv => iv = .int .i64 0) (fun _ => 0)
  case atStart => rfl
  case round =>
    obtain rfl := hrel
    go_wp2
    go_ret
    exact ⟨rfl, rfl⟩

set_option maxRecDepth 50000 in
set_option maxHeartbeats 4000000 in
theorem law_nil (vv : Value) (vs : List (Option (List ByteArray))) (w : World) (hv : NL w vv vs) :
    Calls Tryd.prog 3 #[.slice none 0 0, vv] w (SaysTrue w) := by
  have HV : Hid (NL w vv vs) := hv
  have HK : Hid (SV w (.slice none 0 0) none) := rfl
  obtain ⟨vp, vcap, rfl, hvl, hvm, -, -⟩ := hv.opened
  clear hv
  unfold maxLen at hvm
  have q30 := neqmap30
  go_enter Tryd.func3, Tryd.ntmps3
  go_wp2_with (first
    | (go_at_call 4; refine (bytes_any _ _ none vs _ HK.out HV.out).mono ?_; rintro e w' ⟨r, rfl, rfl⟩; cases r)
    | (go_at_call 5; refine (strBytes_any _ none _ HK.out).mono ?_; rintro e w' ⟨z1, rfl, rfl, hz10, hz11, -⟩)
    | (go_at_call 6; refine (nestedBytes_any _ vs _ HV.out).mono ?_; rintro e w' ⟨z2, rfl, rfl, hz20, hz21, hzz⟩; have HZ : Hid (z2 ≤ 1048576 → vs.length ≤ 65536 ∧ ∀ (k : Nat) o, vs[k]? = some o → Small o) := hzz; clear hzz)
    | (go_at_call 7; (refine (cloneStrings_any _ none _ HK.out (by simp [lenO])).mono ?_; rintro e w1 ⟨v1, rfl, hb1, hs1, -⟩; obtain rfl : v1 = .slice none 0 0 := hs1; have HB1 : Hid (Below w.heap.size w w1) := hb1; clear hb1))
    | (go_at_call 8; refine (cloneNested_any _ vs _ (HV.out.later HB1.out) (HZ.out (by omega)).1 (fun k o h => ((HZ.out (by omega)).2 k o h).1)).mono ?_; rintro e w2 ⟨v2, rfl, hb2, hs2⟩; have HV2 : Hid (NL w2 v2 vs) := hs2; have HB2 : Hid (Below w.heap.size w w2) := HB1.out.trans (hb2.mono HB1.out.size); obtain ⟨vp2, vc2, rfl, -⟩ := hs2.opened; clear hb2 hs2)
    | (go_at_call 9; refine (min_any 0 vs.length _).mono ?_; rintro e w' ⟨rfl, rfl⟩)
    | (go_at_call 10; refine (build_any _ _ none vs 0 _ rfl HV2.out (Nat.zero_le _) (Nat.zero_le _) (fun k o h => ((HZ.out (by omega)).2 k o h).1)).mono ?_; rintro e w' (⟨-, rfl, rfl⟩ | ⟨_, _, hne, _⟩); rotate_left; exact absurd rfl hne)
    | (go_at_call 11; refine (new_any none _).mono ?_; rintro e w5 ⟨rfl, hb5, hz5, hheld⟩; have HH : Hid (Below w.heap.size w w5 ∧ Held w5 (w2.heap.size + 1) w2.heap.size (.map none) (.map none) 0) := ⟨HB2.out.trans (hb5.mono HB2.out.size), hheld⟩; clear hb5 hz5 hheld)
    | (go_at_call 12; have t := HST; clear t; refine (startBody_again _ _ _ _ _ HST.out.2).mono ?_; rintro e w' ⟨rfl, rfl⟩)
    | (go_at_call 12; refine (startBody_first _ _ _ _ (fun _ => none) _ HH.out.2 (by omega) (.inl rfl) (fun s o h => by cases h)).mono ?_; rintro e w6 ⟨rfl, hb6, sv6, hh6, hs6⟩; obtain ⟨-, rfl⟩ | ⟨_, _, _, hx, _⟩ := hs6; rotate_left; (cases hx); have HST : Hid (Below w.heap.size w w6 ∧ Held w6 (w2.heap.size + 1) w2.heap.size (.map none) (.map none) 200) := ⟨HH.out.1.trans (hb6.mono (by have := HB2.out.size; omega)), hh6⟩; clear hb6 hh6)
    | (go_at_call 13; refine (heldStatus_any _ _ _ _ _ _ HST.out.2).mono ?_; rintro e w' ⟨rfl, rfl⟩)
    | (go_at_call 15; refine (heldSent_any _ _ _ _ _ _ HST.out.2 ⟨none, rfl⟩).mono ?_; rintro e w' ⟨rfl, rfl⟩)
    | (go_at_call 14; refine (sameHeader_nil _ _ rfl).mono ?_; rintro e w' ⟨rfl, rfl⟩))
  all_goals first | (go_ret; exact ⟨rfl, Below.refl _ _⟩) | (go_ret; exact ⟨rfl, HST.out.1⟩)

end Go.Proofs.Qxb6609179aDoor
