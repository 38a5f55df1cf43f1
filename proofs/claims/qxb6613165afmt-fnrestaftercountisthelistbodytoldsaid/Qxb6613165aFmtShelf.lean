/-
  DERIVED: THE SHELF's CONTRACTS AT THIS DUMP, IN PLAIN WORDS (tools/lay-plain.mjs out of 'TryfShelf.lean', which tools/lay-shelf.mjs wrote): THE SAME DECLARATIONS UNDER THE SAME NAMES: 'import', 'namespace', 'open', 'def', 'theorem' AND NOTHING ELSE: no command of the shelf's: FOR A HAND-IN. Each laying: the table of numbers ('.._ren') and one theorem, a field a fact of the dump's own or the kernel's comparison; each contract: ONE APPLICATION.
-/
import Derived.Ground.MnProg
import Derived.Shelf.Bin.PutUvarint
import Derived.Shelf.Bin.Uvarint
import Derived.Shelf.Bin.UvarintEmpty
import Derived.Test.Qxb6613165aFmtProg
namespace Go.Proofs
open Go.Shelf
def Tryf.laysBin46_ren : Go.Shelf.Ren := ⟨fun | 46 => 17 | n => n, fun | 22 => 22 | 33 => 29 | 3 => 3 | 4 => 4 | 5 => 5 | 0 => 0 | 45 => 40 | n => n, fun | n => n⟩
theorem Tryf.laysBin46 : Go.Proofs.LaysBin.n46 Tryf.prog Tryf.laysBin46_ren := {
  mixed := by kernel_rfl
  f46 := Tryf.func17.trans (congrArg some (by kernel_rfl))
  t0 := Tryf.underlying0
  a0 := Tryf.isAgg0
  z0 := Tryf.sizeOf0
  v0 := Tryf.zeroValue0
  i0 := by kernel_rfl
  t3 := Tryf.underlying3
  a3 := Tryf.isAgg3
  z3 := Tryf.sizeOf3
  v3 := Tryf.zeroValue3
  i3 := by kernel_rfl
  t4 := Tryf.underlying4
  a4 := Tryf.isAgg4
  z4 := Tryf.sizeOf4
  v4 := Tryf.zeroValue4
  i4 := by kernel_rfl
  t5 := Tryf.underlying5
  a5 := Tryf.isAgg5
  z5 := Tryf.sizeOf5
  v5 := Tryf.zeroValue5
  i5 := by kernel_rfl
  t22 := Tryf.underlying22
  a22 := Tryf.isAgg22
  z22 := Tryf.sizeOf22
  v22 := Tryf.zeroValue22
  i22 := by kernel_rfl
  t33 := Tryf.underlying29
  a33 := Tryf.isAgg29
  z33 := Tryf.sizeOf29
  v33 := Tryf.zeroValue29
  i33 := by kernel_rfl
  t45 := Tryf.underlying40
  a45 := Tryf.isAgg40
  z45 := Tryf.sizeOf40
  v45 := Tryf.zeroValue40
  i45 := by kernel_rfl }
open Go.RowKit in
theorem Tryf.binary_PutUvarint (g o n c x : Nat) (hx : x < 18446744073709551616) (w : World) (hn : (Lib.uvarint x).length ≤ n) (hcell : ∀ j, j < (Lib.uvarint x).length → (w.cell? ⟨g, o + j, none⟩).isSome = true ∧ w.frozen? ⟨g, o + j, none⟩ = false) :
    Calls Tryf.prog 17 #[.slice (some ⟨g, o, none⟩) n c, .int .u64 x] w fun e w' => e = .returned (.int .i64 (Lib.uvarint x).length) ∧ w' = w.setCells g o (Lib.byteCells (Lib.uvarint x)) := Any.binary_PutUvarint Tryf.laysBin46 g o n c x hx w hn hcell
def Tryf.laysBin45_ren : Go.Shelf.Ren := ⟨fun | 45 => 14 | n => n, fun | 22 => 22 | 33 => 29 | 3 => 3 | 45 => 40 | 0 => 0 | 5 => 5 | 4 => 4 | n => n, fun | n => n⟩
theorem Tryf.laysBin45 : Go.Proofs.LaysBin.n45 Tryf.prog Tryf.laysBin45_ren := {
  mixed := by kernel_rfl
  f45 := Tryf.func14.trans (congrArg some (by kernel_rfl))
  t0 := Tryf.underlying0
  a0 := Tryf.isAgg0
  z0 := Tryf.sizeOf0
  v0 := Tryf.zeroValue0
  i0 := by kernel_rfl
  t3 := Tryf.underlying3
  a3 := Tryf.isAgg3
  z3 := Tryf.sizeOf3
  v3 := Tryf.zeroValue3
  i3 := by kernel_rfl
  t4 := Tryf.underlying4
  a4 := Tryf.isAgg4
  z4 := Tryf.sizeOf4
  v4 := Tryf.zeroValue4
  i4 := by kernel_rfl
  t5 := Tryf.underlying5
  a5 := Tryf.isAgg5
  z5 := Tryf.sizeOf5
  v5 := Tryf.zeroValue5
  i5 := by kernel_rfl
  t22 := Tryf.underlying22
  a22 := Tryf.isAgg22
  z22 := Tryf.sizeOf22
  v22 := Tryf.zeroValue22
  i22 := by kernel_rfl
  t33 := Tryf.underlying29
  a33 := Tryf.isAgg29
  z33 := Tryf.sizeOf29
  v33 := Tryf.zeroValue29
  i33 := by kernel_rfl
  t45 := Tryf.underlying40
  a45 := Tryf.isAgg40
  z45 := Tryf.sizeOf40
  v45 := Tryf.zeroValue40
  i45 := by kernel_rfl }
open Go.RowKit in
theorem Tryf.binary_Uvarint (g o n c : Nat) (l : List UInt8) (w : World) (hl : l.length = n) (hcell : ∀ j (hj : j < l.length), w.cell? ⟨g, o + j, none⟩ = some (.int .u8 (l[j]).toNat)) :
    Calls Tryf.prog 14 #[.slice (some ⟨g, o, none⟩) n c] w fun e w' => e = .returned (.tuple #[.int .u64 (Lib.uvarintDec l).1, .int .i64 (Lib.uvarintDec l).2]) ∧ w' = w := Any.binary_Uvarint Tryf.laysBin45 g o n c l w hl hcell
open Go.RowKit in
theorem Tryf.binary_Uvarint_empty (ao : Option Addr) (c : Nat) (w : World) :
    Calls Tryf.prog 14 #[.slice ao 0 c] w fun e w' => e = .returned (.tuple #[.int .u64 (Lib.uvarintDec []).1, .int .i64 (Lib.uvarintDec []).2]) ∧ w' = w := Any.binary_Uvarint_empty Tryf.laysBin45 ao c w
end Go.Proofs
