/-
  Contracts of bytes.Equal and bytes.Join at this program, laid by the kit's own tools (lay-shelf, then lay-plain).
-/
import Derived.Shelf.Bytes.SlSearch0
import Derived.Ground.SlbNamesProg
import Derived.Shelf.Bytes.SlJoin
import Derived.Shelf.Bytes.SlEqualAll
import Derived.Shelf.Bytes.Small
import Derived.Test.Qxb6612609aDoorProg
namespace Go.Proofs
open Go.Shelf
def Tryd.lays115_ren : Go.Shelf.Ren := ⟨fun | 115 => 15 | n => n, fun | 37 => 27 | 4 => 4 | 9 => 9 | 5 => 5 | n => n, fun | n => n⟩
theorem Tryd.lays115 : Go.Proofs.Lays.n115 Tryd.prog Tryd.lays115_ren := {
  mixed := by kernel_rfl
  f115 := Tryd.func15.trans (congrArg some (by kernel_rfl))
  t4 := Tryd.underlying4
  a4 := Tryd.isAgg4
  z4 := Tryd.sizeOf4
  v4 := Tryd.zeroValue4
  t9 := Tryd.underlying9
  a9 := Tryd.isAgg9
  z9 := Tryd.sizeOf9
  v9 := Tryd.zeroValue9
  t37 := Tryd.underlying27
  a37 := Tryd.isAgg27
  z37 := Tryd.sizeOf27
  v37 := Tryd.zeroValue27 }
open Go.Proofs Go.RowKit Go.Lib in
/-- bytes.Equal, each argument with what 'string(..)' of it gives. (LAID: no walk: one application.) -/
theorem Tryd.bytes_Equal_strs (v1 v2 : Value) (t1 t2 : ByteArray) (w : World) (h1 : (convert 27 9 v1).run Tryd.prog w = .ok (.string t1) w) (h2 : (convert 27 9 v2).run Tryd.prog w = .ok (.string t2) w) :
    Calls Tryd.prog 15 #[v1, v2] w fun e w' => e = .returned (.bool (t1.toList == t2.toList)) ∧ w' = w := Any.bytes_Equal_strs Tryd.lays115 v1 v2 t1 t2 w h1 h2
def Tryd.laysSlJ14_ren : Go.Shelf.Ren := ⟨fun | 14 => 17 | 15 => 18 | n => n, fun | 26 => 22 | 22 => 27 | 3 => 3 | 4 => 4 | 0 => 0 | 9 => 9 | 20 => 20 | 5 => 5 | n => n, fun | n => n⟩
theorem Tryd.laysSlJ14 : Go.Proofs.SlLaysJ.n14 Tryd.prog Tryd.laysSlJ14_ren := {
  mixed := by kernel_rfl
  f14 := Tryd.func17.trans (congrArg some (by kernel_rfl))
  f15 := Tryd.func18.trans (congrArg some (by kernel_rfl))
  t0 := Tryd.underlying0
  a0 := Tryd.isAgg0
  z0 := Tryd.sizeOf0
  v0 := Tryd.zeroValue0
  t3 := Tryd.underlying3
  a3 := Tryd.isAgg3
  z3 := Tryd.sizeOf3
  v3 := Tryd.zeroValue3
  t4 := Tryd.underlying4
  a4 := Tryd.isAgg4
  z4 := Tryd.sizeOf4
  v4 := Tryd.zeroValue4
  t9 := Tryd.underlying9
  a9 := Tryd.isAgg9
  z9 := Tryd.sizeOf9
  v9 := Tryd.zeroValue9
  t20 := Tryd.underlying20
  a20 := Tryd.isAgg20
  z20 := Tryd.sizeOf20
  v20 := Tryd.zeroValue20
  t22 := Tryd.underlying27
  a22 := Tryd.isAgg27
  z22 := Tryd.sizeOf27
  v22 := Tryd.zeroValue27
  t26 := Tryd.underlying22
  a26 := Tryd.isAgg22
  z26 := Tryd.sizeOf22
  v26 := Tryd.zeroValue22
  t5 := Tryd.underlying5
  z5 := Tryd.sizeOf5
  i5 := by kernel_rfl }
open Go.RowKit Go.Lib in
theorem Tryd.bytes_Join_many (b o n c : Nat) (vs : List Value) (ls : List (List UInt8)) (sv : Value) (sep : List UInt8) (w : World) (hn : ls.length = n) (h2 : 2 ≤ n) (hP : Lib.PartsAt w ⟨b, o, none⟩ vs ls) (hcap : n ≤ c) (hS : Lib.HoldsBytes w sv sep) (hn47 : n ≤ 140737488355328) (hlen : Lib.lens ls + sep.length * (n - 1) ≤ 140737488355328) :
    Calls Tryd.prog 17 #[.slice (some ⟨b, o, none⟩) n c, sv] w fun e w' => ∃ v', e = .returned v' ∧ Lib.FreshBytes w.heap.size w' v' (Lib.join ls sep) ∧ Below w.heap.size w w' := Any.bytes_Join_many Tryd.laysSlJ14 b o n c vs ls sv sep w hn h2 hP hcap hS hn47 hlen
open Go.RowKit Go.Lib in
/-- bytes.Join of no part (nil too): '[]byte{}': a slice of no byte THAT IS NOT nil, at the head of a new, empty row. (LAID: no walk: one application.) -/
theorem Tryd.bytes_Join_none (p : Option Addr) (c : Nat) (sv : Value) (w : World) :
    Calls Tryd.prog 17 #[.slice p 0 c, sv] w fun e w' => e = .returned (.slice (some ⟨w.heap.size, 0, none⟩) 0 0) ∧ w' = w.alloc (.cells #[] 5) := Any.bytes_Join_none Tryd.laysSlJ14 p c sv w
open Go.RowKit Go.Lib in
/-- bytes.Join of ONE part, of one byte or more: 'append([]byte(nil), s[0]...)': a new []byte of its bytes; sep is not looked at. (LAID: no walk: one application.) -/
theorem Tryd.bytes_Join_one (b o c : Nat) (ad0 : Addr) (c0 : Nat) (l0 : List UInt8) (sv : Value) (w : World) (hcell : w.cell? ⟨b, o, none⟩ = some (.slice (some ad0) l0.length c0)) (hc : ∀ (i : Nat) x, l0[i]? = some x → w.cell? (ad0.add i) = some (.int .u8 (x.toNat : Int))) (h0 : 0 < l0.length) (hs : l0.length ≤ 140737488355328) :
    Calls Tryd.prog 17 #[.slice (some ⟨b, o, none⟩) 1 c, sv] w fun e w' => ∃ v', e = .returned v' ∧ Lib.FreshBytes w.heap.size w' v' l0 ∧ Below w.heap.size w w' := Any.bytes_Join_one Tryd.laysSlJ14 b o c ad0 c0 l0 sv w hcell hc h0 hs
open Go.RowKit Go.Lib in
/-- bytes.Join of ONE part of no byte (nil or not): 'append([]byte(nil), s[0]...)' IS nil; the world is as it was. (LAID: no walk: one application.) -/
theorem Tryd.bytes_Join_one_empty (b o c : Nat) (p0 : Option Addr) (c0 : Nat) (sv : Value) (w : World) (hcell : w.cell? ⟨b, o, none⟩ = some (.slice p0 0 c0)) :
    Calls Tryd.prog 17 #[.slice (some ⟨b, o, none⟩) 1 c, sv] w fun e w' => e = .returned (.slice none 0 0) ∧ w' = w := Any.bytes_Join_one_empty Tryd.laysSlJ14 b o c p0 c0 sv w hcell
def Tryd.laysnb115_ren : Go.Shelf.Ren := ⟨fun | 115 => 15 | n => n, fun | 37 => 27 | 4 => 4 | 9 => 9 | 5 => 5 | n => n, fun | n => n⟩
theorem Tryd.laysnb115 : Go.Proofs.Lays.nb115 Tryd.prog Tryd.laysnb115_ren := {
  mixed := by kernel_rfl
  f115 := Tryd.func15.trans (congrArg some (by kernel_rfl))
  t4 := Tryd.underlying4
  a4 := Tryd.isAgg4
  z4 := Tryd.sizeOf4
  v4 := Tryd.zeroValue4
  t9 := Tryd.underlying9
  a9 := Tryd.isAgg9
  z9 := Tryd.sizeOf9
  v9 := Tryd.zeroValue9
  t37 := Tryd.underlying27
  a37 := Tryd.isAgg27
  z37 := Tryd.sizeOf27
  v37 := Tryd.zeroValue27
  t5 := Tryd.underlying5
  a5 := Tryd.isAgg5
  z5 := Tryd.sizeOf5
  v5 := Tryd.zeroValue5 }
/-- bytes.Equal: WHOLE. (LAID: no walk: one application.) -/
theorem Tryd.bytes_Equal_all (p1 p2 : Option Addr) (n c m d : Nat) (xs ys : List Int) (w : World) (hx : xs.length = n) (hy : ys.length = m) (h1 : Lib.BytesIn w p1 n xs) (h2 : Lib.BytesIn w p2 m ys) :
    Calls Tryd.prog 15 #[.slice p1 n c, .slice p2 m d] w fun e w' => e = .returned (.bool (Lib.bytesOf xs == Lib.bytesOf ys)) ∧ w' = w := Any.bytes_Equal_all Tryd.laysnb115 p1 p2 n c m d xs ys w hx hy h1 h2
/-- bytes.Equal: "Equal reports whether a and b are the same length and contain the same bytes. A nil argument is equivalent to an empty slice.": IT RETURNS 'the bytes of the one == the bytes of the other'; the world is as it was. THE TWO ARGUMENTS COME AS WHATEVER VALUES, each with the one fact that the walk wants of it: what 'string(..)' of it gives: for a slice whose cells you know: 'run_convert_bytes_arg' (Derived/Laws/BytesArg.lean) hands that fact; for a nil one: 'run_convert_bytes_nil' (with xs := []). (LAID: no walk: one application.) -/
theorem Tryd.bytes_Equal (v1 v2 : Value) (xs ys : List Int) (w : World) (h1 : (convert 27 9 v1).run Tryd.prog w = .ok (.string (strOfNums xs)) w) (h2 : (convert 27 9 v2).run Tryd.prog w = .ok (.string (strOfNums ys)) w) :
    Calls Tryd.prog 15 #[v1, v2] w fun e w' => e = .returned (.bool (Lib.bytesOf xs == Lib.bytesOf ys)) ∧ w' = w := Any.bytes_Equal Tryd.lays115 v1 v2 xs ys w h1 h2
end Go.Proofs
