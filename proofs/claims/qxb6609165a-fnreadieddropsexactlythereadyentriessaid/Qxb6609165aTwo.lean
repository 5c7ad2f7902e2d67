/-
  FnReadiedTwoRoundsAsOne: the walk.
-/
import Derived.Test.Qxb6609165aTwoPlain
namespace Go.Proofs.Qxb6609165a
open Go.RowKit

/-- It says true, and writes nothing that stood. -/
def SaysTrue (w : World) (e : Ending) (w' : World) : Prop := e = .returned (.bool true) ∧ Below w.heap.size w w'

theorem below_alloc (w : World) (o : Obj) : Below w.heap.size w (w.alloc o) := (Below.refl _ _).alloc (Nat.le_refl _) o

/-- A call of a function that has a body: it is entered. -/
theorem enters {f : FuncId} {fn : Func} (hf : Try.prog.funcs[f]? = some fn) (hname : (fn.name == "runtime.NumGoroutine") = false) (hb : fn.body.isSome = true) (args : Array Value) (w : World) :
    (callFunc f args).run Try.prog w = .ok (.enter f args) w := by
  obtain ⟨c, hc⟩ := Option.isSome_iff_exists.mp hb
  have hn : fn.name ≠ "runtime.NumGoroutine" := by simpa using hname
  simp [callFunc, go_sem, hf, hn, hc]

theorem entries_mem {ss : List SlotD} {s : SlotD} (h : entries ss ≤ 1048576) (hs : s ∈ ss) : s.es.length ≤ 1048576 := by
  obtain ⟨k, hk⟩ := List.mem_iff_getElem?.mp hs
  have h1 := entries_take_succ hk
  have h2 := entries_take_le ss (k + 1)
  omega

/-- What stands when the three calls of Readied are done. -/
structure Three (w W : World) (fm ep : Int) (ss : List SlotD) (ra rb : List (Int × ByteArray)) (T T2 T3 : Nat) (p2 p3 : Option Addr) (c2 c3 : Nat) (t2 t3 : List SlotD) : Prop where
  below : Below w.heap.size w W
  agree : Agree (rdOr ra rb) ss t2 t3
  e2 : W.cell? ⟨T2, 1, none⟩ = some (.int .u64 ep)
  e3 : W.cell? ⟨T3, 1, none⟩ = some (.int .u64 ep)
  s2 : W.cell? ⟨T2, 2, none⟩ = some (.slice p2 ss.length c2)
  s3 : W.cell? ⟨T3, 2, none⟩ = some (.slice p3 ss.length c3)
  l2 : SLs W (.slice p2 ss.length c2) t2
  l3 : SLs W (.slice p3 ss.length c3) t3
  plain : Plainly W T
  plain3 : Plainly W T3
  same : T3 = T ↔ Quiet (rdOr ra rb) ss

theorem three_of {w w4 w5 w6 w7 : World} {fm ep : Int} {ss t0 t1 t2 t3 : List SlotD} {ra rb : List (Int × ByteArray)} {T T2 T3 : Nat} {ap : Option Addr} {an ac : Nat} {sv0 sv2 sv3 : Value} (h4 : Below w.heap.size w w4)
    (h5 : Below w4.heap.size w4 w5) (h6 : Below w5.heap.size w5 w6) (h7 : Below w6.heap.size w6 w7) (hc : Copies ss t0) (ht : Tab w4 T fm ep ap an ac sv0 t0) (ht2 : Tab w6 T2 fm ep ap an ac sv2 t2) (ht3 : Tab w7 T3 fm ep ap an ac sv3 t3)
    (r1 : Rel (rdOf ra) t0 t1) (r2 : Rel (rdOf rb) t1 t2) (r3 : Rel (rdOr ra rb) t0 t3) (q : T3 = T ↔ Quiet (rdOr ra rb) t0) : ∃ p2 p3 c2 c3, Three w w7 fm ep ss ra rb T T2 T3 p2 p3 c2 c3 t2 t3 := by
  have hag := agree_two hc r1 r2 r3
  have hk2 := ht2.later h7
  have h46 : Below w4.heap.size w4 w7 := h5.trans ((h6.trans (h7.mono h6.size)).mono h5.size)
  have hk := ht.later h46
  obtain ⟨p2, c2, e2, _⟩ := hk2.slots.opened
  obtain ⟨p3, c3, e3, _⟩ := ht3.slots.opened
  rw [hag.1] at e2
  rw [hag.2.1] at e3
  refine ⟨p2, p3, c2, c3, h4.trans (h46.mono h4.size), hag, hk2.c1, ht3.c1, by rw [← e2]; exact hk2.c2, by rw [← e3]; exact ht3.c2, by rw [← e2]; exact hk2.slots, by rw [← e3]; exact ht3.slots, hk.obj, ht3.obj, q.trans (quiet_copies hc)⟩

theorem SLs.nrAt {w : World} {p : Option Addr} {n c : Nat} {l : List SlotD} (h : SLs w (.slice p n c) l) {i : Nat} {x : SlotD} (hx : l[i]? = some x) : ∃ b off, p = some ⟨b, off, none⟩ ∧ w.cell? ⟨b, off + i * 5 + 4, none⟩ = some x.nr ∧ NRL w x.nr x.es := by
  obtain ⟨p', c', e, _, _, _, HC⟩ := h.opened
  injection e with e1 e2 e3
  subst e1
  obtain ⟨b, off, hp, hc, _, _, hn⟩ := HC.out i x hx
  exact ⟨b, off, hp, hc.2.2.2.2, hn⟩

/-- Slot i of the two tables: their lists, both those that stay. -/
theorem Three.at {w W : World} {fm ep : Int} {ss : List SlotD} {ra rb : List (Int × ByteArray)} {T T2 T3 : Nat} {p2 p3 : Option Addr} {c2 c3 : Nat} {t2 t3 : List SlotD} (h : Three w W fm ep ss ra rb T T2 T3 p2 p3 c2 c3 t2 t3) {i : Nat} {s : SlotD} (hs : ss[i]? = some s) :
    ∃ b2 o2 b3 o3 np2 np3 m2 m3, p2 = some ⟨b2, o2, none⟩ ∧ p3 = some ⟨b3, o3, none⟩ ∧ W.cell? ⟨b2, o2 + i * 5 + 4, none⟩ = some (.slice np2 (stay (rdOr ra rb) i s.es).length m2) ∧ W.cell? ⟨b3, o3 + i * 5 + 4, none⟩ = some (.slice np3 (stay (rdOr ra rb) i s.es).length m3) ∧
      NRL W (.slice np2 (stay (rdOr ra rb) i s.es).length m2) (stay (rdOr ra rb) i s.es) ∧ NRL W (.slice np3 (stay (rdOr ra rb) i s.es).length m3) (stay (rdOr ra rb) i s.es) ∧ (np2 = none ↔ np3 = none) := by
  have hi := (List.getElem?_eq_some_iff.mp hs).1
  obtain ⟨x, hx⟩ : ∃ x, t2[i]? = some x := ⟨_, List.getElem?_eq_getElem (by rw [h.agree.1]; exact hi)⟩
  obtain ⟨y, hy⟩ : ∃ y, t3[i]? = some y := ⟨_, List.getElem?_eq_getElem (by rw [h.agree.2.1]; exact hi)⟩
  obtain ⟨ex, ey, hn⟩ := h.agree.2.2 i s x y hs hx hy
  obtain ⟨b2, o2, hp2, d2, n2⟩ := h.l2.nrAt hx
  obtain ⟨b3, o3, hp3, d3, n3⟩ := h.l3.nrAt hy
  rw [ex] at n2
  rw [ey] at n3
  obtain ⟨np2, m2, v2, _, _, z2, _⟩ := n2.opened
  obtain ⟨np3, m3, v3, _, _, z3, _⟩ := n3.opened
  rw [v2] at d2 n2 hn
  rw [v3] at d3 n3 hn
  refine ⟨b2, o2, b3, o3, np2, np3, m2, m3, hp2, hp3, d2, d3, n2, n3, fun e => ?_, fun e => ?_⟩
  · obtain ⟨hz, hc⟩ := z2 e
    have := hn.mp (by rw [e, hz, hc]; rfl)
    injection this
  · obtain ⟨hz, hc⟩ := z3 e
    have := hn.mpr (by rw [e, hz, hc]; rfl)
    injection this

set_option maxRecDepth 50000 in
set_option maxHeartbeats 2000000 in
theorem two_law (fm ep : Int) (sv av rav rbv : Value) (ss : List SlotD) (adl : List (ByteArray × ByteArray)) (ra rb : List (Int × ByteArray)) (w : World) (hs : SLs w sv ss) (ha : AL w av adl) (hra : RL w rav ra) (hrb : RL w rbv rb) :
    Calls Try.prog 5 #[.int .i64 fm, .int .u64 ep, sv, av, rav, rbv] w (SaysTrue w) := by
  have HS : Hid (SLs w sv ss) := hs
  have HA : Hid (AL w av adl) := ha
  have HRA : Hid (RL w rav ra) := hra
  have HRB : Hid (RL w rbv rb) := hrb
  obtain ⟨p, cap, rfl, hl, hm, -, HC⟩ := hs.opened
  obtain ⟨pa, capa, rfl, -⟩ := ha.opened
  obtain ⟨pra, cra, rfl, -⟩ := hra.opened
  obtain ⟨prb, crb, rfl, -⟩ := hrb.opened
  clear hs ha hra hrb
  unfold maxLen at hm
  have HB2 : Hid (Below w.heap.size w ((w.alloc (Obj.cells #[Value.slice pra ra.length cra] 43)).alloc (Obj.cells #[Value.slice prb rb.length crb] 43))) := ((Below.refl _ _).alloc (Nat.le_refl _) _).alloc (by simp) _
  have HX : Hid (((w.alloc (Obj.cells #[Value.slice pra ra.length cra] 43)).alloc (Obj.cells #[Value.slice prb rb.length crb] 43)).cell? ⟨w.heap.size, 0, none⟩ = some (Value.slice pra ra.length cra) ∧
      ((w.alloc (Obj.cells #[Value.slice pra ra.length cra] 43)).alloc (Obj.cells #[Value.slice prb rb.length crb] 43)).cell? ⟨w.heap.size + 1, 0, none⟩ = some (Value.slice prb rb.length crb)) :=
    ⟨cell_later (below_alloc _ _) (by simp), by simp⟩
  have hcf25 : ∀ args W, (callFunc 25 args).run Try.prog W = .ok (.enter 25 args) W := enters Try.func25 (by kernel_rfl) (by kernel_rfl)
  have hcf26 : ∀ args W, (callFunc 26 args).run Try.prog W = .ok (.enter 26 args) W := enters Try.func26 (by kernel_rfl) (by kernel_rfl)
  have hcf27 : ∀ args W, (callFunc 27 args).run Try.prog W = .ok (.enter 27 args) W := enters Try.func27 (by kernel_rfl) (by kernel_rfl)
  go_enter Try.func5, Try.ntmps5
  go_wp2_with (first
    | (go_at_call 24; refine (bytesTwo_any _ _ _ _ _ _ ss adl ra rb _ (HS.out.later HB2.out) (HA.out.later HB2.out) (HRA.out.later HB2.out) (HRB.out.later HB2.out)).mono ?_; rintro e w' ⟨r, rfl, rfl⟩; cases r)
    | (go_at_call 7; refine (slotsBytes_any _ _ ss _ (HS.out.later HB2.out) (by omega) (by omega)).mono ?_; rintro e w' ⟨n1, o1, rfl, rfl, hn10, hn11, hP1⟩; have HP1 : Hid (o1 = false → ss.length ≤ 16384 ∧ entries ss ≤ 1048576) := hP1; clear hP1; cases o1)
    | (go_at_call 8; refine (addrsBytes_any _ _ adl _ (HA.out.later HB2.out) (by omega) (by omega)).mono ?_; rintro e w' ⟨n2, o2, rfl, rfl, hn20, hn21, hP2⟩; have HP2 : Hid (o2 = false → adl.length ≤ 32768) := hP2; clear hP2; cases o2)
    | (go_at_call_has 15 pra; refine (readyBytes_any _ _ ra _ (HRA.out.later HB2.out) (by omega) (by omega)).mono ?_; rintro e w' ⟨n3, o3, rfl, rfl, hn30, hn31, -⟩; cases o3)
    | (go_at_call_has 15 prb; refine (readyBytes_any _ _ rb _ (HRB.out.later HB2.out) (by omega) (by omega)).mono ?_; rintro e w' ⟨n4, o4, rfl, rfl, hn40, hn41, -⟩; cases o4)
    | (go_at_call 16; (refine (sorted_any _ ss _ (HS.out.later HB2.out) (fun s h => entries_mem (HP1.out (by trivial)).2 h)).mono ?_; rintro e w3 ⟨r, rfl, hb3, hasc⟩; have HB3 : Hid (Below w.heap.size w w3) := HB2.out.trans (hb3.mono HB2.out.size); have HX3 : Hid (w3.cell? ⟨w.heap.size, 0, none⟩ = some (Value.slice pra ra.length cra) ∧ w3.cell? ⟨w.heap.size + 1, 0, none⟩ = some (Value.slice prb rb.length crb)) := ⟨cell_later hb3 HX.out.1, cell_later hb3 HX.out.2⟩; clear hb3; have HAS : Hid (r = true → ∀ s ∈ ss, Asc s.es) := hasc; clear hasc; cases r))
    | (go_at_call 9; refine (toTable_any fm ep _ _ ss adl _ (HS.out.later HB3.out) (HA.out.later HB3.out) (HP1.out (by trivial)).1 (HP2.out (by trivial)) (fun s h => entries_mem (HP1.out (by trivial)).2 h)).mono ?_; rintro e w4 ⟨T, sv0, av0, t0, rfl, hb4, -, hpl, d0, d1, d2, d3, hsl, hcop, hal, -⟩; obtain ⟨ap, ac, rfl, -⟩ := hal.opened; have HT : Hid (Tab w4 T fm ep ap adl.length ac sv0 t0 ∧ Copies ss t0 ∧ (∀ s ∈ t0, Asc s.es ∧ s.es.length ≤ 1048576)) := ⟨⟨hpl, d0, d1, d2, d3, hsl⟩, hcop, hcop.all (HAS.out (by trivial)) (fun s h => entries_mem (HP1.out (by trivial)).2 h)⟩; have HB4 : Hid (Below w.heap.size w w4) := HB3.out.trans (hb4.mono HB3.out.size); have HX4 : Hid (w4.cell? ⟨w.heap.size, 0, none⟩ = some (Value.slice pra ra.length cra) ∧ w4.cell? ⟨w.heap.size + 1, 0, none⟩ = some (Value.slice prb rb.length crb)) := ⟨cell_later hb4 HX3.out.1, cell_later hb4 HX3.out.2⟩; clear hb4 hpl d0 d1 d2 d3 hsl hcop hal)
    | (go_at_call_has 17 T; have HT2' := HT2; clear HT2'; have hb46 : Below w4.heap.size w4 w6 := HT1.out.2.2.trans (HT2.out.2.2.mono HT1.out.2.2.size); refine (ready_call 27 #[.pointer (some ⟨w.heap.size, 0, none⟩), .pointer (some ⟨w.heap.size + 1, 0, none⟩)] (rdOr ra rb) T fm ep sv0 ap adl.length ac t0 _ (HT.out.1.later hb46) (fun s h => (HT.out.2.2 s h).1) (by rw [HT.out.2.1.1]; exact (HP1.out (by trivial)).1) (fun s h => (HT.out.2.2 s h).2) hcf27 (fun wr hbw i a s => ask27 i a s w.heap.size (w.heap.size + 1) _ _ ra rb wr (cell_later hbw (cell_later hb46 HX4.out.1)) (((HRA.out.later HB4.out).later hb46).later hbw) (cell_later hbw (cell_later hb46 HX4.out.2)) (((HRB.out.later HB4.out).later hb46).later hbw))).mono ?_; rintro e w7 ⟨T3, sv3, t3, rfl, hb7, htab3, hrel3, hq⟩;
       have hX7 : w7.cell? ⟨w.heap.size, 0, none⟩ = some (Value.slice pra ra.length cra) ∧ w7.cell? ⟨w.heap.size + 1, 0, none⟩ = some (Value.slice prb rb.length crb) := ⟨cell_later hb7 (cell_later hb46 HX4.out.1), cell_later hb7 (cell_later hb46 HX4.out.2)⟩;
       obtain ⟨p2, p3, c2, c3, h3⟩ := three_of HB4.out HT1.out.2.2 HT2.out.2.2 hb7 HT.out.2.1 HT.out.1 HT2.out.1 htab3 HT1.out.2.1 HT2.out.2.1 hrel3 hq; have H3 : Hid (Three w w7 fm ep ss ra rb T T2 T3 p2 p3 c2 c3 t2 t3) := h3; have HX7 : Hid (w7.cell? ⟨w.heap.size, 0, none⟩ = some (Value.slice pra ra.length cra) ∧ w7.cell? ⟨w.heap.size + 1, 0, none⟩ = some (Value.slice prb rb.length crb)) := hX7; have e2 := h3.e2; have e3 := h3.e3; have s2 := h3.s2; have s3 := h3.s3; clear h3 hX7 hb7 htab3 hrel3 hq hb46 HT HT1 HT2 HX4 HX3 HB4 HB3)
    | (go_at_call_has 17 T1; refine (ready_call 26 #[.pointer (some ⟨w.heap.size + 1, 0, none⟩)] (rdOf rb) T1 fm ep sv1 ap adl.length ac t1 _ HT1.out.1 (fun s h => (HT1.out.2.1.all HT.out.2.2 s h).1) (by rw [HT1.out.2.1.1, HT.out.2.1.1]; exact (HP1.out (by trivial)).1) (fun s h => (HT1.out.2.1.all HT.out.2.2 s h).2) hcf26 (fun wr hbw i a s => ask26 i a s (w.heap.size + 1) _ rb wr (cell_later hbw (cell_later HT1.out.2.2 HX4.out.2)) (((HRB.out.later HB4.out).later HT1.out.2.2).later hbw))).mono ?_; rintro e w6 ⟨T2, sv2, t2, rfl, hb6, htab2, hrel2, -⟩; have HT2 : Hid (Tab w6 T2 fm ep ap adl.length ac sv2 t2 ∧ Rel (rdOf rb) t1 t2 ∧ Below w5.heap.size w5 w6) := ⟨htab2, hrel2, hb6⟩; clear htab2 hrel2 hb6)
    | (go_at_call_has 17 T; refine (ready_call 25 #[.pointer (some ⟨w.heap.size, 0, none⟩)] (rdOf ra) T fm ep sv0 ap adl.length ac t0 _ HT.out.1 (fun s h => (HT.out.2.2 s h).1) (by rw [HT.out.2.1.1]; exact (HP1.out (by trivial)).1) (fun s h => (HT.out.2.2 s h).2) hcf25 (fun wr hbw i a s => ask25 i a s w.heap.size _ ra wr (cell_later hbw HX4.out.1) ((HRA.out.later HB4.out).later hbw))).mono ?_; rintro e w5 ⟨T1, sv1, t1, rfl, hb5, htab1, hrel1, -⟩; have HT1 : Hid (Tab w5 T1 fm ep ap adl.length ac sv1 t1 ∧ Rel (rdOf ra) t0 t1 ∧ Below w4.heap.size w4 w5) := ⟨htab1, hrel1, hb5⟩; clear htab1 hrel1 hb5))
  all_goals first | (go_ret; exact ⟨rfl, HB2.out⟩) | (go_ret; exact ⟨rfl, HB3.out⟩) | skip
  clear HX HB2 HA HP2 HAS e2 e3 s2 s3 hcf25 hcf26 hcf27
  clear hn10 hn11 hn20 hn21 hn30 hn31 hn40 hn41
  have hsn : ss.length ≤ 16384 := (HP1.out (by trivial)).1
  have HEN : Hid (entries ss ≤ 1048576) := (HP1.out (by trivial)).2
  have HBW : Hid (Below w.heap.size w w7) := H3.out.below
  have q58 := nil58
  clear HP1
  go_loopw [19, 20, 21, 22] (fun tv lv nv iv wr => Below w7.heap.size w7 wr ∧ ∃ (i : Nat), i ≤ ss.length ∧ iv = .int .i64 i ∧ tv = .int .i64 (entries (ss.take i) : Nat) ∧ lv = .int .i64 (leftN (rdOr ra rb) ss i : Nat) ∧ nv = .int .i64 (namedN (rdOr ra rb) ss i : Nat)) (fun _ _ _ iv _ => ss.length - (intOf iv).toNat)
  case atStart => exact ⟨Below.refl _ _, 0, by omega, rfl, by simp [entries], by simp [leftN], by simp [namedN]⟩
  case round =>
    obtain ⟨hb, i, hi, rfl, rfl, rfl, rfl⟩ := hrel
    have HB : Hid (Below w7.heap.size w7 wr) := hb
    clear hb
    have hsum := left_named (rdOr ra rb) ss i hi
    have hle := entries_take_le ss i
    have hen1 := HEN.out
    by_cases hlt : i < ss.length
    · obtain ⟨s, hsi⟩ : ∃ s, ss[i]? = some s := ⟨_, List.getElem?_eq_getElem hlt⟩
      have hsum1 := left_named (rdOr ra rb) ss (i + 1) hlt
      have hle1 := entries_take_le ss (i + 1)
      have hent := entries_take_succ hsi
      have hlef := leftN_succ (rd := rdOr ra rb) hsi
      have hnam := namedN_succ (rd := rdOr ra rb) hsi
      have HSI : Hid (ss[i]? = some s) := hsi
      obtain ⟨b, off, rfl, ⟨-, -, -, -, c4⟩, -, -, hnr⟩ := HC.out i s hsi
      obtain ⟨np, ncap, hnv, hnl, hnm, -, NC⟩ := hnr.opened
      rw [hnv] at c4
      obtain ⟨b2, o2, b3, o3, np2, np3, m2, m3, rfl, rfl, d2, d3, n2, n3, hnil⟩ := H3.out.at hsi
      obtain ⟨_, _, ev2, hl2, hm2, -, NC2⟩ := n2.opened
      injection ev2 with e1 e2 e3
      clear e2
      subst e1 e3
      obtain ⟨_, _, ev3, hl3, hm3, -, NC3⟩ := n3.opened
      injection ev3 with e1 e2 e3
      clear e2
      subst e1 e3
      have hbw : Below w.heap.size w wr := HBW.out.trans (HB.out.mono HBW.out.size)
      have c40 := c4
      replace c4 := cell_later hbw c4
      replace d2 := cell_later HB.out d2
      replace d3 := cell_later HB.out d3
      have s2 := cell_later HB.out H3.out.s2
      have s3 := cell_later HB.out H3.out.s3
      have HC4 : Hid (w.cell? ⟨b, off + i * 5 + 4, none⟩ = some (.slice np s.es.length ncap)) := c40
      have hstl : (stay (rdOr ra rb) i s.es).length ≤ s.es.length := by have := split_len (rdOr ra rb) i s.es; omega
      clear hnr hnv hsi n2 n3 hbw c40
      unfold maxLen at hnm hm2 hm3
      generalize hst : stay (rdOr ra rb) i s.es = st at *
      generalize hln : leftN (rdOr ra rb) ss i = ln at *
      generalize hln1 : leftN (rdOr ra rb) ss (i + 1) = ln1 at *
      generalize hnn : namedN (rdOr ra rb) ss i = nn at *
      generalize hnn1 : namedN (rdOr ra rb) ss (i + 1) = nn1 at *
      generalize het : entries (ss.take i) = et at *
      generalize het1 : entries (ss.take (i + 1)) = et1 at *
      have hpn : (np2 = none ∧ np3 = none) ∨ ∃ x2 x3, np2 = some x2 ∧ np3 = some x3 := by
        rcases np2 with _ | x2
        · exact .inl ⟨rfl, hnil.mp rfl⟩
        · rcases np3 with _ | x3
          · exact absurd (hnil.mpr rfl) (by simp)
          · exact .inr ⟨x2, x3, rfl, rfl⟩
      clear hnil
      rcases hpn with ⟨rfl, rfl⟩ | ⟨x2, x3, rfl, rfl⟩
      all_goals
        go_wp2
        go_loopw [25] (fun jv wx => Below w7.heap.size w7 wx ∧ ∃ (j : Nat), j ≤ st.length ∧ jv = .int .i64 j) (fun jv _ => st.length - (intOf jv).toNat)
        case atStart => exact ⟨HB.out, 0, by omega, rfl⟩
        case round =>
          clear HB c4 d2 d3 s2 s3
          obtain ⟨hb, j, hj, rfl⟩ := hrel
          have HB : Hid (Below w7.heap.size w7 wr) := hb
          clear hb
          by_cases hjt : j < st.length
          · obtain ⟨xa, xs, hx⟩ := get_nr hjt
            obtain ⟨g2, q2, e2, f2, f2', -⟩ := NC2.out j _ hx
            obtain ⟨g3, q3, e3, f3, f3', -⟩ := NC3.out j _ hx
            cases e2 <;>
                (cases e3
                 replace f2 := cell_later HB.out f2
                 replace f2' := cell_later HB.out f2'
                 replace f3 := cell_later HB.out f3
                 replace f3' := cell_later HB.out f3'
                 dsimp only at f2 f2' f3 f3'
                 clear hx
                 go_wp2_with fail
                 go_quiet (fail)
                 have hbd : Below w7.heap.size w7 (wr.drewN nq) := below_drewN HB.out nq
                 generalize wr.drewN nq = w5 at *
                 go_wp2
                 go_roundw
                 case rel => exact ⟨hbd, j + 1, by omega, by go_num⟩
                 case measure => simp [intOf]; omega)
          · obtain rfl : j = st.length := by omega
            have c4 := cell_later (HBW.out.trans (HB.out.mono HBW.out.size)) HC4.out
            go_wp2
            obtain ⟨wo, rfl⟩ : ∃ wo, wo = wr := ⟨_, rfl⟩
            go_loopw [21, 26] (fun nv jv wx => Below w7.heap.size w7 wx ∧ ∃ (j : Nat), j ≤ s.es.length ∧ jv = .int .i64 j ∧ nv = .int .i64 (nn + ((s.es.take j).filter fun x => rdOr ra rb i x.1).length : Nat)) (fun _ jv _ => s.es.length - (intOf jv).toNat)
            case atStart => exact ⟨HB.out, 0, by omega, rfl, by simp⟩
            case round =>
              clear HB c4
              obtain ⟨hb, j, hj, rfl, rfl⟩ := hrel
              have HB : Hid (Below w7.heap.size w7 wr) := hb
              have hbw := HBW.out.trans (hb.mono HBW.out.size)
              have c4 := cell_later hbw HC4.out
              clear hb
              have hcl := split_len (rdOr ra rb) i (s.es.take j)
              have htl : (s.es.take j).length = j := by rw [List.length_take]; omega
              by_cases hjt : j < s.es.length
              · obtain ⟨xa, xs, hx⟩ := get_nr hjt
                obtain ⟨nb, noff, rfl, f1, -, -⟩ := NC.out j _ hx
                have hcnt := take_filter_succ (p := fun x => rdOr ra rb i x.1) hx
                replace f1 := cell_later hbw f1
                dsimp only at f1
                have HCA : Hid (Calls Try.prog 19 #[.slice pra ra.length cra, .int .i64 i, .string xa] wr (fun e w' => e = .returned (.bool (isReady ra i xa)) ∧ wr = w')) := isReady_any _ ra _ _ _ (HRA.out.later hbw)
                have HCB : Hid (Calls Try.prog 19 #[.slice prb rb.length crb, .int .i64 i, .string xa] wr (fun e w' => e = .returned (.bool (isReady rb i xa)) ∧ wr = w')) := isReady_any _ rb _ _ _ (HRB.out.later hbw)
                have hy1 := cell_later HB.out HX7.out.1
                have hy2 := cell_later HB.out HX7.out.2
                have hrd : rdOr ra rb i xa = (isReady ra i xa || isReady rb i xa) := rfl
                dsimp only at hcnt
                rw [hrd] at hcnt
                generalize isReady ra i xa = ya at *
                generalize isReady rb i xa = yb at *
                generalize ((s.es.take j).filter fun x => rdOr ra rb i x.1).length = cn at *
                generalize hcn1 : ((s.es.take (j + 1)).filter fun x => rdOr ra rb i x.1).length = cn1 at *
                clear hx hrd hbw
                cases ya
                · cases yb
                  · simp at hcnt
                    go_wp2_with (first
                      | (go_at_call_has 19 pra; refine HCA.out.mono ?_; rintro e w' ⟨rfl, rfl⟩)
                      | (go_at_call_has 19 prb; refine HCB.out.mono ?_; rintro e w' ⟨rfl, rfl⟩))
                    exact ⟨⟨HB.out, j + 1, by omega, by go_num, by rw [hcn1, hcnt]; go_num⟩, by simp [intOf]; omega⟩
                  · simp at hcnt
                    go_wp2_with (first
                      | (go_at_call_has 19 pra; refine HCA.out.mono ?_; rintro e w' ⟨rfl, rfl⟩)
                      | (go_at_call_has 19 prb; refine HCB.out.mono ?_; rintro e w' ⟨rfl, rfl⟩))
                    exact ⟨⟨HB.out, j + 1, by omega, by go_num, by rw [hcn1, hcnt]; go_num⟩, by simp [intOf]; omega⟩
                · simp at hcnt
                  go_wp2_with (go_at_call_has 19 pra; refine HCA.out.mono ?_; rintro e w' ⟨rfl, rfl⟩)
                  exact ⟨⟨HB.out, j + 1, by omega, by go_num, by rw [hcn1, hcnt]; go_num⟩, by simp [intOf]; omega⟩
              · obtain rfl : j = s.es.length := by omega
                rw [List.take_length] at hcl ⊢
                go_wp2
                exact ⟨⟨HB.out, i + 1, by omega, by go_num, by rw [het1, hent]; go_num, by rw [hln1, hlef]; go_num, by rw [hnn1, hnam]⟩, by simp [intOf]; omega⟩
    · obtain rfl : i = ss.length := by omega
      have HNZ : Hid (namedN (rdOr ra rb) ss ss.length = 0 ↔ T3 = T) := named_zero.trans H3.out.same.symm
      have hbw : Below w.heap.size w wr := HBW.out.trans (HB.out.mono HBW.out.size)
      have hpl := H3.out.plain.later HB.out
      have hpl3 := H3.out.plain3.later HB.out
      generalize namedN (rdOr ra rb) ss ss.length = nn at *
      generalize leftN (rdOr ra rb) ss ss.length = ln at *
      generalize entries (ss.take ss.length) = et at *
      by_cases hTT : T3 = T
      · have hn0 : nn = 0 := HNZ.out.mpr hTT
        subst hTT hn0
        have hpe := ptr_same wr ⟨T3, 0, none⟩
        clear HNZ hpl hpl3
        go_wp2
        go_ret
        exact ⟨rfl, hbw⟩
      · have hn0 : nn ≠ 0 := fun e => hTT (HNZ.out.mp e)
        have hpe := ptr_other wr hTT hpl3 hpl
        clear HNZ hpl hpl3
        go_wp2
        go_ret
        exact ⟨ret_bool (by simp; omega), hbw⟩

end Go.Proofs.Qxb6609165a
