/-
  DERIVED: THE SHELF's CONTRACTS AT THIS DUMP, IN PLAIN WORDS (tools/lay-plain.mjs out of 'TrydShelf.lean', which tools/lay-shelf.mjs wrote): THE SAME DECLARATIONS UNDER THE SAME NAMES: 'import', 'namespace', 'open', 'def', 'theorem' AND NOTHING ELSE: no command of the shelf's: FOR A HAND-IN. Each laying: the table of numbers ('.._ren') and one theorem, a field a fact of the dump's own or the kernel's comparison; each contract: ONE APPLICATION.
-/
import Derived.Shelf.Small.Strs
import Derived.Ground.MnProg
import Derived.Shelf.Bin.AppendUvarint
import Derived.Shelf.Bin.Uvarint
import Derived.Shelf.Bin.UvarintEmpty
import Derived.Test.Qxb6613060aDoorProg
namespace Go.Proofs
open Go.Shelf
def Tryd.lays213_ren : Go.Shelf.Ren := ⟨fun | 213 => 32 | 265 => 36 | n => n, fun | 9 => 9 | 3 => 3 | n => n, fun | n => n⟩
theorem Tryd.lays213 : Go.Proofs.Lays.n213 Tryd.prog Tryd.lays213_ren := {
  mixed := by kernel_rfl
  f213 := Tryd.func32.trans (congrArg some (by kernel_rfl))
  f265 := Tryd.func36.trans (congrArg some (by kernel_rfl))
  t3 := Tryd.underlying3
  a3 := Tryd.isAgg3
  z3 := Tryd.sizeOf3
  v3 := Tryd.zeroValue3
  t9 := Tryd.underlying9
  a9 := Tryd.isAgg9
  z9 := Tryd.sizeOf9
  v9 := Tryd.zeroValue9 }
open Go.RowKit in
/-- internal/bytealg.CompareString (what strings.Compare calls): IT RETURNS 'Lib.compareBytes a b'; the world is as it was. (LAID: no walk: one application.) -/
theorem Tryd.bytealg_CompareString (a b : ByteArray) (w : World) :
    Calls Tryd.prog 32 #[.string a, .string b] w fun e w' => e = .returned (.int .i64 (Lib.compareBytes a.data.toList b.data.toList)) ∧ w' = w := Any.bytealg_CompareString Tryd.lays213 a b w
def Tryd.lays106_ren : Go.Shelf.Ren := ⟨fun | 106 => 23 | 213 => 32 | 265 => 36 | n => n, fun | 9 => 9 | 3 => 3 | n => n, fun | n => n⟩
theorem Tryd.lays106 : Go.Proofs.Lays.n106 Tryd.prog Tryd.lays106_ren := {
  mixed := by kernel_rfl
  f106 := Tryd.func23.trans (congrArg some (by kernel_rfl))
  f213 := Tryd.func32.trans (congrArg some (by kernel_rfl))
  f265 := Tryd.func36.trans (congrArg some (by kernel_rfl))
  t3 := Tryd.underlying3
  a3 := Tryd.isAgg3
  z3 := Tryd.sizeOf3
  v3 := Tryd.zeroValue3
  t9 := Tryd.underlying9
  a9 := Tryd.isAgg9
  z9 := Tryd.sizeOf9
  v9 := Tryd.zeroValue9 }
open Go.RowKit in
theorem Tryd.strings_Compare (a b : ByteArray) (w : World) :
    Calls Tryd.prog 23 #[.string a, .string b] w fun e w' => e = .returned (.int .i64 (Lib.compareBytes a.data.toList b.data.toList)) ∧ w' = w := Any.strings_Compare Tryd.lays106 a b w
def Tryd.laysBin47_ren : Go.Shelf.Ren := ⟨fun | 47 => 25 | n => n, fun | 22 => 26 | 33 => 53 | 4 => 4 | 5 => 5 | 45 => 61 | n => n, fun | n => n⟩
theorem Tryd.laysBin47 : Go.Proofs.LaysBin.n47 Tryd.prog Tryd.laysBin47_ren := {
  mixed := by kernel_rfl
  f47 := Tryd.func25.trans (congrArg some (by kernel_rfl))
  t4 := Tryd.underlying4
  a4 := Tryd.isAgg4
  z4 := Tryd.sizeOf4
  v4 := Tryd.zeroValue4
  i4 := by kernel_rfl
  t5 := Tryd.underlying5
  a5 := Tryd.isAgg5
  z5 := Tryd.sizeOf5
  v5 := Tryd.zeroValue5
  i5 := by kernel_rfl
  t22 := Tryd.underlying26
  a22 := Tryd.isAgg26
  z22 := Tryd.sizeOf26
  v22 := Tryd.zeroValue26
  i22 := by kernel_rfl
  t33 := Tryd.underlying53
  a33 := Tryd.isAgg53
  z33 := Tryd.sizeOf53
  v33 := Tryd.zeroValue53
  i33 := by kernel_rfl
  t45 := Tryd.underlying61
  a45 := Tryd.isAgg61
  z45 := Tryd.sizeOf61
  v45 := Tryd.zeroValue61
  i45 := by kernel_rfl }
open Go.RowKit in
theorem Tryd.binary_AppendUvarint (B n x : Nat) (hx : x < 18446744073709551616) (sv : Value) (xs : List Value) (w : World) (hown : w.ownsRow B 5 1 sv n xs) (hBw : B ≤ w.heap.size) (hlim : n + 10 ≤ 140737488355328) :
    Calls Tryd.prog 25 #[sv, .int .u64 x] w fun e w' => ∃ v', e = .returned v' ∧ w'.ownsRow B 5 1 v' (n + (Lib.uvarint x).length) (xs ++ Lib.byteCells (Lib.uvarint x)) ∧ Below B w w' := Any.binary_AppendUvarint Tryd.laysBin47 B n x hx sv xs w hown hBw hlim
def Tryd.laysBin45_ren : Go.Shelf.Ren := ⟨fun | 45 => 33 | n => n, fun | 22 => 26 | 33 => 53 | 3 => 3 | 45 => 61 | 0 => 0 | 5 => 5 | 4 => 4 | n => n, fun | n => n⟩
theorem Tryd.laysBin45 : Go.Proofs.LaysBin.n45 Tryd.prog Tryd.laysBin45_ren := {
  mixed := by kernel_rfl
  f45 := Tryd.func33.trans (congrArg some (by kernel_rfl))
  t0 := Tryd.underlying0
  a0 := Tryd.isAgg0
  z0 := Tryd.sizeOf0
  v0 := Tryd.zeroValue0
  i0 := by kernel_rfl
  t3 := Tryd.underlying3
  a3 := Tryd.isAgg3
  z3 := Tryd.sizeOf3
  v3 := Tryd.zeroValue3
  i3 := by kernel_rfl
  t4 := Tryd.underlying4
  a4 := Tryd.isAgg4
  z4 := Tryd.sizeOf4
  v4 := Tryd.zeroValue4
  i4 := by kernel_rfl
  t5 := Tryd.underlying5
  a5 := Tryd.isAgg5
  z5 := Tryd.sizeOf5
  v5 := Tryd.zeroValue5
  i5 := by kernel_rfl
  t22 := Tryd.underlying26
  a22 := Tryd.isAgg26
  z22 := Tryd.sizeOf26
  v22 := Tryd.zeroValue26
  i22 := by kernel_rfl
  t33 := Tryd.underlying53
  a33 := Tryd.isAgg53
  z33 := Tryd.sizeOf53
  v33 := Tryd.zeroValue53
  i33 := by kernel_rfl
  t45 := Tryd.underlying61
  a45 := Tryd.isAgg61
  z45 := Tryd.sizeOf61
  v45 := Tryd.zeroValue61
  i45 := by kernel_rfl }
open Go.RowKit in
theorem Tryd.binary_Uvarint (g o n c : Nat) (l : List UInt8) (w : World) (hl : l.length = n) (hcell : ∀ j (hj : j < l.length), w.cell? ⟨g, o + j, none⟩ = some (.int .u8 (l[j]).toNat)) :
    Calls Tryd.prog 33 #[.slice (some ⟨g, o, none⟩) n c] w fun e w' => e = .returned (.tuple #[.int .u64 (Lib.uvarintDec l).1, .int .i64 (Lib.uvarintDec l).2]) ∧ w' = w := Any.binary_Uvarint Tryd.laysBin45 g o n c l w hl hcell
open Go.RowKit in
theorem Tryd.binary_Uvarint_empty (ao : Option Addr) (c : Nat) (w : World) :
    Calls Tryd.prog 33 #[.slice ao 0 c] w fun e w' => e = .returned (.tuple #[.int .u64 (Lib.uvarintDec []).1, .int .i64 (Lib.uvarintDec []).2]) ∧ w' = w := Any.binary_Uvarint_empty Tryd.laysBin45 ao c w
end Go.Proofs
