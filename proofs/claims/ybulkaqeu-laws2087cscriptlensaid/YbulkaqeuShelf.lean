/-
  The library's contracts that this seat uses, at this seat's program: laid by the kit's own tools (lay-shelf.mjs, then lay-plain.mjs) for this program; remarks struck.
-/
import Derived.Ground.MnProg
import Derived.Shelf.Bin.LEAppendUint16
import Derived.Shelf.Bin.LEAppendUint32
import Derived.Shelf.Bin.LEAppendUint64
import Derived.Shelf.Bytes.SlEqualAll
import Derived.Shelf.Bytes.Small
import Derived.Test.YbulkaqeuProg
namespace Go.Proofs
open Go.Shelf
def Yba.laysBin29_ren : Go.Shelf.Ren := ⟨fun | 29 => 14 | n => n, fun | 25 => 35 | 22 => 22 | 23 => 41 | 0 => 0 | 5 => 5 | 45 => 39 | n => n, fun | n => n⟩
theorem Yba.laysBin29 : Go.Proofs.LaysBin.n29 Yba.prog Yba.laysBin29_ren := {
  mixed := by kernel_rfl
  f29 := Yba.func14.trans (congrArg some (by kernel_rfl))
  t0 := Yba.underlying0
  a0 := Yba.isAgg0
  z0 := Yba.sizeOf0
  v0 := Yba.zeroValue0
  i0 := by kernel_rfl
  t5 := Yba.underlying5
  a5 := Yba.isAgg5
  z5 := Yba.sizeOf5
  v5 := Yba.zeroValue5
  i5 := by kernel_rfl
  t22 := Yba.underlying22
  a22 := Yba.isAgg22
  z22 := Yba.sizeOf22
  v22 := Yba.zeroValue22
  i22 := by kernel_rfl
  t23 := Yba.underlying41
  a23 := Yba.isAgg41
  z23 := Yba.sizeOf41
  v23 := Yba.zeroValue41
  i23 := by kernel_rfl
  t25 := Yba.underlying35
  a25 := Yba.isAgg35
  z25 := Yba.sizeOf35
  v25 := Yba.zeroValue35
  i25 := by kernel_rfl
  t45 := Yba.underlying39
  a45 := Yba.isAgg39
  z45 := Yba.sizeOf39
  v45 := Yba.zeroValue39
  i45 := by kernel_rfl }
open Go.RowKit in
theorem Yba.binary_LE_AppendUint16 (B n v : Nat) (hv : v < 65536) (sv : Value) (xs : List Value) (w : World) (hown : w.ownsRow B 5 1 sv n xs) (hBw : B ≤ w.heap.size) (hlim : n + 2 ≤ 140737488355328) :
    Calls Yba.prog 14 #[.agg #[], sv, .int .u16 v] w fun e w' => ∃ v', e = .returned v' ∧ w'.ownsRow B 5 1 v' (n + 2) (xs ++ Lib.byteCells (Lib.leBytes 2 v)) ∧ Below B w w' := Any.binary_LE_AppendUint16 Yba.laysBin29 B n v hv sv xs w hown hBw hlim
def Yba.laysBin32_ren : Go.Shelf.Ren := ⟨fun | 32 => 11 | n => n, fun | 25 => 35 | 22 => 22 | 29 => 37 | 0 => 0 | 5 => 5 | 45 => 39 | n => n, fun | n => n⟩
theorem Yba.laysBin32 : Go.Proofs.LaysBin.n32 Yba.prog Yba.laysBin32_ren := {
  mixed := by kernel_rfl
  f32 := Yba.func11.trans (congrArg some (by kernel_rfl))
  t0 := Yba.underlying0
  a0 := Yba.isAgg0
  z0 := Yba.sizeOf0
  v0 := Yba.zeroValue0
  i0 := by kernel_rfl
  t5 := Yba.underlying5
  a5 := Yba.isAgg5
  z5 := Yba.sizeOf5
  v5 := Yba.zeroValue5
  i5 := by kernel_rfl
  t22 := Yba.underlying22
  a22 := Yba.isAgg22
  z22 := Yba.sizeOf22
  v22 := Yba.zeroValue22
  i22 := by kernel_rfl
  t25 := Yba.underlying35
  a25 := Yba.isAgg35
  z25 := Yba.sizeOf35
  v25 := Yba.zeroValue35
  i25 := by kernel_rfl
  t29 := Yba.underlying37
  a29 := Yba.isAgg37
  z29 := Yba.sizeOf37
  v29 := Yba.zeroValue37
  i29 := by kernel_rfl
  t45 := Yba.underlying39
  a45 := Yba.isAgg39
  z45 := Yba.sizeOf39
  v45 := Yba.zeroValue39
  i45 := by kernel_rfl }
open Go.RowKit in
theorem Yba.binary_LE_AppendUint32 (B n v : Nat) (hv : v < 4294967296) (sv : Value) (xs : List Value) (w : World) (hown : w.ownsRow B 5 1 sv n xs) (hBw : B ≤ w.heap.size) (hlim : n + 4 ≤ 140737488355328) :
    Calls Yba.prog 11 #[.agg #[], sv, .int .u32 v] w fun e w' => ∃ v', e = .returned v' ∧ w'.ownsRow B 5 1 v' (n + 4) (xs ++ Lib.byteCells (Lib.leBytes 4 v)) ∧ Below B w w' := Any.binary_LE_AppendUint32 Yba.laysBin32 B n v hv sv xs w hown hBw hlim
def Yba.laysBin35_ren : Go.Shelf.Ren := ⟨fun | 35 => 15 | n => n, fun | 25 => 35 | 22 => 22 | 33 => 28 | 0 => 0 | 5 => 5 | 45 => 39 | n => n, fun | n => n⟩
theorem Yba.laysBin35 : Go.Proofs.LaysBin.n35 Yba.prog Yba.laysBin35_ren := {
  mixed := by kernel_rfl
  f35 := Yba.func15.trans (congrArg some (by kernel_rfl))
  t0 := Yba.underlying0
  a0 := Yba.isAgg0
  z0 := Yba.sizeOf0
  v0 := Yba.zeroValue0
  i0 := by kernel_rfl
  t5 := Yba.underlying5
  a5 := Yba.isAgg5
  z5 := Yba.sizeOf5
  v5 := Yba.zeroValue5
  i5 := by kernel_rfl
  t22 := Yba.underlying22
  a22 := Yba.isAgg22
  z22 := Yba.sizeOf22
  v22 := Yba.zeroValue22
  i22 := by kernel_rfl
  t25 := Yba.underlying35
  a25 := Yba.isAgg35
  z25 := Yba.sizeOf35
  v25 := Yba.zeroValue35
  i25 := by kernel_rfl
  t33 := Yba.underlying28
  a33 := Yba.isAgg28
  z33 := Yba.sizeOf28
  v33 := Yba.zeroValue28
  i33 := by kernel_rfl
  t45 := Yba.underlying39
  a45 := Yba.isAgg39
  z45 := Yba.sizeOf39
  v45 := Yba.zeroValue39
  i45 := by kernel_rfl }
open Go.RowKit in
theorem Yba.binary_LE_AppendUint64 (B n v : Nat) (hv : v < 18446744073709551616) (sv : Value) (xs : List Value) (w : World) (hown : w.ownsRow B 5 1 sv n xs) (hBw : B ≤ w.heap.size) (hlim : n + 8 ≤ 140737488355328) :
    Calls Yba.prog 15 #[.agg #[], sv, .int .u64 v] w fun e w' => ∃ v', e = .returned v' ∧ w'.ownsRow B 5 1 v' (n + 8) (xs ++ Lib.byteCells (Lib.leBytes 8 v)) ∧ Below B w w' := Any.binary_LE_AppendUint64 Yba.laysBin35 B n v hv sv xs w hown hBw hlim
def Yba.laysnb115_ren : Go.Shelf.Ren := ⟨fun | 115 => 9 | n => n, fun | 37 => 22 | 4 => 4 | 9 => 9 | 5 => 5 | n => n, fun | n => n⟩
theorem Yba.laysnb115 : Go.Proofs.Lays.nb115 Yba.prog Yba.laysnb115_ren := {
  mixed := by kernel_rfl
  f115 := Yba.func9.trans (congrArg some (by kernel_rfl))
  t4 := Yba.underlying4
  a4 := Yba.isAgg4
  z4 := Yba.sizeOf4
  v4 := Yba.zeroValue4
  t9 := Yba.underlying9
  a9 := Yba.isAgg9
  z9 := Yba.sizeOf9
  v9 := Yba.zeroValue9
  t37 := Yba.underlying22
  a37 := Yba.isAgg22
  z37 := Yba.sizeOf22
  v37 := Yba.zeroValue22
  t5 := Yba.underlying5
  a5 := Yba.isAgg5
  z5 := Yba.sizeOf5
  v5 := Yba.zeroValue5 }
theorem Yba.bytes_Equal_all (p1 p2 : Option Addr) (n c m d : Nat) (xs ys : List Int) (w : World) (hx : xs.length = n) (hy : ys.length = m) (h1 : Lib.BytesIn w p1 n xs) (h2 : Lib.BytesIn w p2 m ys) :
    Calls Yba.prog 9 #[.slice p1 n c, .slice p2 m d] w fun e w' => e = .returned (.bool (Lib.bytesOf xs == Lib.bytesOf ys)) ∧ w' = w := Any.bytes_Equal_all Yba.laysnb115 p1 p2 n c m d xs ys w hx hy h1 h2
def Yba.lays115_ren : Go.Shelf.Ren := ⟨fun | 115 => 9 | n => n, fun | 37 => 22 | 4 => 4 | 9 => 9 | 5 => 5 | n => n, fun | n => n⟩
theorem Yba.lays115 : Go.Proofs.Lays.n115 Yba.prog Yba.lays115_ren := {
  mixed := by kernel_rfl
  f115 := Yba.func9.trans (congrArg some (by kernel_rfl))
  t4 := Yba.underlying4
  a4 := Yba.isAgg4
  z4 := Yba.sizeOf4
  v4 := Yba.zeroValue4
  t9 := Yba.underlying9
  a9 := Yba.isAgg9
  z9 := Yba.sizeOf9
  v9 := Yba.zeroValue9
  t37 := Yba.underlying22
  a37 := Yba.isAgg22
  z37 := Yba.sizeOf22
  v37 := Yba.zeroValue22 }
theorem Yba.bytes_Equal (v1 v2 : Value) (xs ys : List Int) (w : World) (h1 : (convert 22 9 v1).run Yba.prog w = .ok (.string (strOfNums xs)) w) (h2 : (convert 22 9 v2).run Yba.prog w = .ok (.string (strOfNums ys)) w) :
    Calls Yba.prog 9 #[v1, v2] w fun e w' => e = .returned (.bool (Lib.bytesOf xs == Lib.bytesOf ys)) ∧ w' = w := Any.bytes_Equal Yba.lays115 v1 v2 xs ys w h1 h2
end Go.Proofs
