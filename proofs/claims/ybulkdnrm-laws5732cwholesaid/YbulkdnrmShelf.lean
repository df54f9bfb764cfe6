import Derived.Shelf.Strings.Builder1
import Derived.Shelf.Strings.Builder2
import Derived.Shelf.Bin.PutUvarint
import Derived.Test.YbulkdnrmProg
namespace Go.Proofs
open Go.Shelf
def Yba.lays169_ren : Go.Shelf.Ren := ⟨fun | 169 => 12 | n => n, fun | 70 => 33 | 9 => 9 | 0 => 0 | 72 => 35 | 37 => 29 | 127 => 50 | 3 => 3 | 5 => 5 | n => n, fun | n => n⟩
theorem Yba.lays169 : Go.Proofs.Lays.n169 Yba.prog Yba.lays169_ren := {
  mixed := by kernel_rfl
  f169 := Yba.func12.trans (congrArg some (by kernel_rfl))
  t0 := Yba.underlying0
  a0 := Yba.isAgg0
  z0 := Yba.sizeOf0
  v0 := Yba.zeroValue0
  t3 := Yba.underlying3
  a3 := Yba.isAgg3
  z3 := Yba.sizeOf3
  v3 := Yba.zeroValue3
  t9 := Yba.underlying9
  a9 := Yba.isAgg9
  z9 := Yba.sizeOf9
  v9 := Yba.zeroValue9
  t37 := Yba.underlying29
  a37 := Yba.isAgg29
  z37 := Yba.sizeOf29
  v37 := Yba.zeroValue29
  t70 := Yba.underlying33
  a70 := Yba.isAgg33
  z70 := Yba.sizeOf33
  v70 := Yba.zeroValue33
  t72 := Yba.underlying35
  a72 := Yba.isAgg35
  z72 := Yba.sizeOf35
  v72 := Yba.zeroValue35
  t127 := Yba.underlying50
  a127 := Yba.isAgg50
  z127 := Yba.sizeOf50
  v127 := Yba.zeroValue50 }
theorem Yba.Builder_Extra_169 : Builder.Extra Yba.prog Yba.lays169_ren := {
  sizeBuilder := by kernel_rfl
  liesBuilder := by kernel_rfl
  t5 := Yba.underlying5
  a5 := Yba.isAgg5
  z5 := Yba.sizeOf5
  v5 := Yba.zeroValue5
  infoByte := by kernel_rfl
  cellsByte := by kernel_rfl
  sizeByte := by kernel_rfl
  neB5 := by decide }
open Go.RowKit in
theorem Yba.Builder_String_any (B b : Nat) (l : List UInt8) (w : World) (h : Lib.IsBuilder 35 5 B b (Lib.byteCells l) w) (hBw : B ≤ w.heap.size) :
    Calls Yba.prog 12 #[.pointer (some ⟨b, 0, none⟩)] w fun e w' => e = .returned (.string ⟨l.toArray⟩) ∧ Below B w w' := Any.Builder_String_any Yba.lays169 Yba.Builder_Extra_169 B b l w h hBw
def Yba.lays165_ren : Go.Shelf.Ren := ⟨fun | 165 => 9 | 240 => 14 | 241 => 15 | 276 => 18 | 277 => 19 | n => n, fun | 70 => 33 | 3 => 3 | 0 => 0 | 4 => 4 | 9 => 9 | 20 => 20 | 72 => 35 | 37 => 29 | 164 => 51 | 5 => 5 | n => n, fun | n => n⟩
theorem Yba.lays165 : Go.Proofs.Lays.n165 Yba.prog Yba.lays165_ren := {
  mixed := by kernel_rfl
  f165 := Yba.func9.trans (congrArg some (by kernel_rfl))
  f240 := Yba.func14.trans (congrArg some (by kernel_rfl))
  f241 := Yba.func15.trans (congrArg some (by kernel_rfl))
  f276 := Yba.func18.trans (congrArg some (by kernel_rfl))
  f277 := Yba.func19.trans (congrArg some (by kernel_rfl))
  t0 := Yba.underlying0
  a0 := Yba.isAgg0
  z0 := Yba.sizeOf0
  v0 := Yba.zeroValue0
  t3 := Yba.underlying3
  a3 := Yba.isAgg3
  z3 := Yba.sizeOf3
  v3 := Yba.zeroValue3
  t4 := Yba.underlying4
  a4 := Yba.isAgg4
  z4 := Yba.sizeOf4
  v4 := Yba.zeroValue4
  t9 := Yba.underlying9
  a9 := Yba.isAgg9
  z9 := Yba.sizeOf9
  v9 := Yba.zeroValue9
  t20 := Yba.underlying20
  a20 := Yba.isAgg20
  z20 := Yba.sizeOf20
  v20 := Yba.zeroValue20
  t37 := Yba.underlying29
  a37 := Yba.isAgg29
  z37 := Yba.sizeOf29
  v37 := Yba.zeroValue29
  t70 := Yba.underlying33
  a70 := Yba.isAgg33
  z70 := Yba.sizeOf33
  v70 := Yba.zeroValue33
  t72 := Yba.underlying35
  a72 := Yba.isAgg35
  z72 := Yba.sizeOf35
  v72 := Yba.zeroValue35
  t164 := Yba.underlying51
  a164 := Yba.isAgg51
  z164 := Yba.sizeOf51
  v164 := Yba.zeroValue51 }
theorem Yba.Builder_Extra_165 : Builder.Extra Yba.prog Yba.lays165_ren := {
  sizeBuilder := by kernel_rfl
  liesBuilder := by kernel_rfl
  t5 := Yba.underlying5
  a5 := Yba.isAgg5
  z5 := Yba.sizeOf5
  v5 := Yba.zeroValue5
  infoByte := by kernel_rfl
  cellsByte := by kernel_rfl
  sizeByte := by kernel_rfl
  neB5 := by decide }
open Go.RowKit in
theorem Yba.Builder_Grow_fresh (B b n : Nat) (w : World) (hB : B ≤ b) (hbk : w.heap[b]? = some (.cells #[.pointer none, .slice none 0 0] 35 (0, 0))) (hBw : B ≤ w.heap.size) (hn : n ≤ 281474976710656) :
    Calls Yba.prog 9 #[.pointer (some ⟨b, 0, none⟩), .int .i64 n] w fun e w' => e = .returned (.tuple #[]) ∧ (Lib.BuilderAt 35 5 B b (.pointer (some ⟨b, 0, none⟩)) [] w' ∧ Below B w w') := Any.Builder_Grow_fresh Yba.lays165 Yba.Builder_Extra_165 B b n w hB hbk hBw hn
def Yba.laysBin46_ren : Go.Shelf.Ren := ⟨fun | 46 => 17 | n => n, fun | 22 => 29 | 33 => 43 | 3 => 3 | 4 => 4 | 5 => 5 | 0 => 0 | 45 => 44 | n => n, fun | n => n⟩
theorem Yba.laysBin46 : Go.Proofs.LaysBin.n46 Yba.prog Yba.laysBin46_ren := {
  mixed := by kernel_rfl
  f46 := Yba.func17.trans (congrArg some (by kernel_rfl))
  t0 := Yba.underlying0
  a0 := Yba.isAgg0
  z0 := Yba.sizeOf0
  v0 := Yba.zeroValue0
  i0 := by kernel_rfl
  t3 := Yba.underlying3
  a3 := Yba.isAgg3
  z3 := Yba.sizeOf3
  v3 := Yba.zeroValue3
  i3 := by kernel_rfl
  t4 := Yba.underlying4
  a4 := Yba.isAgg4
  z4 := Yba.sizeOf4
  v4 := Yba.zeroValue4
  i4 := by kernel_rfl
  t5 := Yba.underlying5
  a5 := Yba.isAgg5
  z5 := Yba.sizeOf5
  v5 := Yba.zeroValue5
  i5 := by kernel_rfl
  t22 := Yba.underlying29
  a22 := Yba.isAgg29
  z22 := Yba.sizeOf29
  v22 := Yba.zeroValue29
  i22 := by kernel_rfl
  t33 := Yba.underlying43
  a33 := Yba.isAgg43
  z33 := Yba.sizeOf43
  v33 := Yba.zeroValue43
  i33 := by kernel_rfl
  t45 := Yba.underlying44
  a45 := Yba.isAgg44
  z45 := Yba.sizeOf44
  v45 := Yba.zeroValue44
  i45 := by kernel_rfl }
open Go.RowKit in
theorem Yba.binary_PutUvarint (g o n c x : Nat) (hx : x < 18446744073709551616) (w : World) (hn : (Lib.uvarint x).length ≤ n) (hcell : ∀ j, j < (Lib.uvarint x).length → (w.cell? ⟨g, o + j, none⟩).isSome = true ∧ w.frozen? ⟨g, o + j, none⟩ = false) :
    Calls Yba.prog 17 #[.slice (some ⟨g, o, none⟩) n c, .int .u64 x] w fun e w' => e = .returned (.int .i64 (Lib.uvarint x).length) ∧ w' = w.setCells g o (Lib.byteCells (Lib.uvarint x)) := Any.binary_PutUvarint Yba.laysBin46 g o n c x hx w hn hcell
end Go.Proofs
