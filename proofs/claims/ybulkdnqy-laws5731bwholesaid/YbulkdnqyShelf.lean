import Derived.Shelf.Small.Strs
import Derived.Shelf.Sort.Plain
import Derived.Shelf.Strings.Prefix
import Derived.Shelf.Slices.Equal
import Derived.Shelf.Slices.Clone
import Derived.Shelf.Slices.In.SortNone
import Derived.Test.YbulkdnqyProg
namespace Go.Proofs
open Go.Shelf
def Yba.lays106_ren : Go.Shelf.Ren := ⟨fun | 106 => 13 | 213 => 27 | 265 => 35 | n => n, fun | 9 => 9 | 3 => 3 | n => n, fun | n => n⟩
theorem Yba.lays106 : Go.Proofs.Lays.n106 Yba.prog Yba.lays106_ren := {
  mixed := by kernel_rfl
  f106 := Yba.func13.trans (congrArg some (by kernel_rfl))
  f213 := Yba.func27.trans (congrArg some (by kernel_rfl))
  f265 := Yba.func35.trans (congrArg some (by kernel_rfl))
  t3 := Yba.underlying3
  a3 := Yba.isAgg3
  z3 := Yba.sizeOf3
  v3 := Yba.zeroValue3
  t9 := Yba.underlying9
  a9 := Yba.isAgg9
  z9 := Yba.sizeOf9
  v9 := Yba.zeroValue9 }
open Go.RowKit in
theorem Yba.strings_Compare (a b : ByteArray) (w : World) :
    Calls Yba.prog 13 #[.string a, .string b] w fun e w' => e = .returned (.int .i64 (Lib.compareBytes a.data.toList b.data.toList)) ∧ w' = w := Any.strings_Compare Yba.lays106 a b w
def Yba.lays190_ren : Go.Shelf.Ren := ⟨fun | 190 => 5 | 125 => 10 | 258 => 9 | 128 => 25 | 129 => 26 | 302 => 16 | 303 => 17 | 304 => 18 | 305 => 19 | 306 => 20 | 307 => 21 | 308 => 22 | 309 => 23 | 310 => 24 | 333 => 29 | 329 => 30 | 330 => 31 | 334 => 32 | 335 => 33 | 336 => 34 | 344 => 36 | n => n, fun | 31 => 22 | 9 => 9 | 3 => 3 | 46 => 45 | 0 => 0 | 51 => 58 | 53 => 60 | 4 => 4 | 183 => 52 | 182 => 51 | 131 => 46 | 5 => 5 | 218 => 61 | 222 => 65 | 228 => 68 | 229 => 69 | n => n, fun | n => n⟩
theorem Yba.lays190 : Go.Proofs.Lays.n190 Yba.prog Yba.lays190_ren := {
  mixed := by kernel_rfl
  f125 := Yba.func10.trans (congrArg some (by kernel_rfl))
  f128 := Yba.func25.trans (congrArg some (by kernel_rfl))
  f129 := Yba.func26.trans (congrArg some (by kernel_rfl))
  f190 := Yba.func5.trans (congrArg some (by kernel_rfl))
  f258 := Yba.func9.trans (congrArg some (by kernel_rfl))
  f302 := Yba.func16.trans (congrArg some (by kernel_rfl))
  f303 := Yba.func17.trans (congrArg some (by kernel_rfl))
  f304 := Yba.func18.trans (congrArg some (by kernel_rfl))
  f305 := Yba.func19.trans (congrArg some (by kernel_rfl))
  f306 := Yba.func20.trans (congrArg some (by kernel_rfl))
  f307 := Yba.func21.trans (congrArg some (by kernel_rfl))
  f308 := Yba.func22.trans (congrArg some (by kernel_rfl))
  f309 := Yba.func23.trans (congrArg some (by kernel_rfl))
  f310 := Yba.func24.trans (congrArg some (by kernel_rfl))
  f329 := Yba.func30.trans (congrArg some (by kernel_rfl))
  f330 := Yba.func31.trans (congrArg some (by kernel_rfl))
  f333 := Yba.func29.trans (congrArg some (by kernel_rfl))
  f334 := Yba.func32.trans (congrArg some (by kernel_rfl))
  f335 := Yba.func33.trans (congrArg some (by kernel_rfl))
  f336 := Yba.func34.trans (congrArg some (by kernel_rfl))
  f344 := Yba.func36.trans (congrArg some (by kernel_rfl))
  t0 := Yba.underlying0
  a0 := Yba.isAgg0
  z0 := Yba.sizeOf0
  v0 := Yba.zeroValue0
  t3 := Yba.underlying3
  a3 := Yba.isAgg3
  z3 := Yba.sizeOf3
  v3 := Yba.zeroValue3
  t4 := Yba.underlying4
  a4 := Yba.isAgg4
  z4 := Yba.sizeOf4
  v4 := Yba.zeroValue4
  t5 := Yba.underlying5
  a5 := Yba.isAgg5
  z5 := Yba.sizeOf5
  v5 := Yba.zeroValue5
  t9 := Yba.underlying9
  a9 := Yba.isAgg9
  z9 := Yba.sizeOf9
  v9 := Yba.zeroValue9
  t31 := Yba.underlying22
  a31 := Yba.isAgg22
  z31 := Yba.sizeOf22
  v31 := Yba.zeroValue22
  t46 := Yba.underlying45
  a46 := Yba.isAgg45
  z46 := Yba.sizeOf45
  v46 := Yba.zeroValue45
  t51 := Yba.underlying58
  a51 := Yba.isAgg58
  z51 := Yba.sizeOf58
  v51 := Yba.zeroValue58
  t53 := Yba.underlying60
  a53 := Yba.isAgg60
  z53 := Yba.sizeOf60
  v53 := Yba.zeroValue60
  t131 := Yba.underlying46
  a131 := Yba.isAgg46
  z131 := Yba.sizeOf46
  v131 := Yba.zeroValue46
  t182 := Yba.underlying51
  a182 := Yba.isAgg51
  z182 := Yba.sizeOf51
  v182 := Yba.zeroValue51
  t183 := Yba.underlying52
  a183 := Yba.isAgg52
  z183 := Yba.sizeOf52
  v183 := Yba.zeroValue52
  t218 := Yba.underlying61
  a218 := Yba.isAgg61
  z218 := Yba.sizeOf61
  v218 := Yba.zeroValue61
  t222 := Yba.underlying65
  a222 := Yba.isAgg65
  z222 := Yba.sizeOf65
  v222 := Yba.zeroValue65
  t228 := Yba.underlying68
  a228 := Yba.isAgg68
  z228 := Yba.sizeOf68
  v228 := Yba.zeroValue68
  t229 := Yba.underlying69
  a229 := Yba.isAgg69
  z229 := Yba.sizeOf69
  v229 := Yba.zeroValue69 }
open Go.Sort Go.RowKit in
theorem Yba.slices_Sort_string (blk off cap : Nat) (ss : List (List UInt8)) (w : World) (hH : Holds encStr w blk off ss.toArray) (hblk : blk < w.heap.size) (hsz : ss.length < 4611686018427387904) :
    Calls Yba.prog 5 #[.slice (some ⟨blk, off, none⟩) ss.length cap] w fun e w' =>
      e = .returned (.tuple #[]) ∧ ∃ n os, w' = grow (putRow encStr (Sort.ahead w n) blk off (ss.mergeSort fun x y => decide (x ≤ y)).toArray) os := Any.slices_Sort_string Yba.lays190 blk off cap ss w hH hblk hsz
def Yba.lays99_ren : Go.Shelf.Ren := ⟨fun | 99 => 15 | 206 => 28 | n => n, fun | 9 => 9 | 4 => 4 | 3 => 3 | n => n, fun | n => n⟩
theorem Yba.lays99 : Go.Proofs.Lays.n99 Yba.prog Yba.lays99_ren := {
  mixed := by kernel_rfl
  f99 := Yba.func15.trans (congrArg some (by kernel_rfl))
  f206 := Yba.func28.trans (congrArg some (by kernel_rfl))
  t3 := Yba.underlying3
  a3 := Yba.isAgg3
  z3 := Yba.sizeOf3
  v3 := Yba.zeroValue3
  t4 := Yba.underlying4
  a4 := Yba.isAgg4
  z4 := Yba.sizeOf4
  v4 := Yba.zeroValue4
  t9 := Yba.underlying9
  a9 := Yba.isAgg9
  z9 := Yba.sizeOf9
  v9 := Yba.zeroValue9 }
open Go.RowKit Go.Lib in
theorem Yba.strings_HasPrefix (s p : ByteArray) (w : World) :
    Calls Yba.prog 15 #[.string s, .string p] w fun e w' => e = .returned (.bool (Lib.hasPrefix s.data.toList p.data.toList)) ∧ w' = w := Any.strings_HasPrefix Yba.lays99 s p w
def Yba.lays111_ren : Go.Shelf.Ren := ⟨fun | 111 => 8 | n => n, fun | 28 => 23 | 3 => 3 | 4 => 4 | 0 => 0 | n => n, fun | n => n⟩
theorem Yba.lays111 : Go.Proofs.Lays.n111 Yba.prog Yba.lays111_ren := {
  mixed := by kernel_rfl
  f111 := Yba.func8.trans (congrArg some (by kernel_rfl))
  t0 := Yba.underlying0
  a0 := Yba.isAgg0
  z0 := Yba.sizeOf0
  v0 := Yba.zeroValue0
  t3 := Yba.underlying3
  a3 := Yba.isAgg3
  z3 := Yba.sizeOf3
  v3 := Yba.zeroValue3
  t4 := Yba.underlying4
  a4 := Yba.isAgg4
  z4 := Yba.sizeOf4
  v4 := Yba.zeroValue4
  t28 := Yba.underlying23
  a28 := Yba.isAgg23
  z28 := Yba.sizeOf23
  v28 := Yba.zeroValue23 }
open Go.RowKit Go.Lib in
theorem Yba.slices_Equal_int (b1 o1 n c b2 o2 m d : Nat) (xs ys : List Int) (w : World) (hx : n ≤ xs.length) (hy : m ≤ ys.length) (hbig : n ≤ 9223372036854775807) (hbig2 : m ≤ 9223372036854775807) (hc1 : ∀ j, j < xs.length → w.cell? ⟨b1, o1 + j, none⟩ = some (.int .i64 (xs.getD j 0))) (hc2 : ∀ j, j < ys.length → w.cell? ⟨b2, o2 + j, none⟩ = some (.int .i64 (ys.getD j 0))) :
    Calls Yba.prog 8 #[.slice (some ⟨b1, o1, none⟩) n c, .slice (some ⟨b2, o2, none⟩) m d] w fun e w' => e = .returned (.bool (xs.take n == ys.take m)) ∧ ∃ q, w' = w.drewN q := Any.slices_Equal_int Yba.lays111 b1 o1 n c b2 o2 m d xs ys w hx hy hbig hbig2 hc1 hc2
open Go.RowKit Go.Lib in
theorem Yba.slices_Equal_int_empty (a1 a2 : Option Addr) (c m d : Nat) (w : World) (hbig2 : m ≤ 9223372036854775807) :
    Calls Yba.prog 8 #[.slice a1 0 c, .slice a2 m d] w fun e w' => e = .returned (.bool (decide (m = 0))) ∧ w' = w := Any.slices_Equal_int_empty Yba.lays111 a1 a2 c m d w hbig2
def Yba.laysNm216_ren : Go.Shelf.Ren := ⟨fun | 16 => 4 | n => n, fun | 24 => 22 | 9 => 9 | 4 => 4 | n => n, fun | n => n⟩
theorem Yba.laysNm216 : Go.Proofs.Lays2.n16 Yba.prog Yba.laysNm216_ren := {
  mixed := by kernel_rfl
  f16 := Yba.func4.trans (congrArg some (by kernel_rfl))
  t4 := Yba.underlying4
  a4 := Yba.isAgg4
  z4 := Yba.sizeOf4
  v4 := Yba.zeroValue4
  t9 := Yba.underlying9
  a9 := Yba.isAgg9
  z9 := Yba.sizeOf9
  v9 := Yba.zeroValue9
  t24 := Yba.underlying22
  a24 := Yba.isAgg22
  z24 := Yba.sizeOf22
  v24 := Yba.zeroValue22
  i9 := by kernel_rfl }
open Go.RowKit Go.Lib in
theorem Yba.slices_Clone_string (b off n c : Nat) (zs : List ByteArray) (w : World) (hz : n ≤ zs.length) (hbig : n * 16 ≤ 140737488355328) (hc : ∀ j, j < zs.length → w.cell? ⟨b, off + j, none⟩ = some (.string (zs.getD j ByteArray.empty))) :
    Calls Yba.prog 4 #[.slice (some ⟨b, off, none⟩) n c] w fun e w' => ∃ v', e = .returned v' ∧ w'.ownsRow w.heap.size 9 1 v' n ((zs.take n).map (Value.string)) ∧ v' ≠ .slice none 0 0 ∧ Below w.heap.size w w' := Any.slices_Clone_string Yba.laysNm216 b off n c zs w hz hbig hc
open Go.RowKit Go.Lib in
theorem Yba.slices_Clone_string_nil (n c : Nat) (w : World) :
    Calls Yba.prog 4 #[.slice none n c] w fun e w' => e = .returned (.slice none 0 0) ∧ w' = w := Any.slices_Clone_string_nil Yba.laysNm216 n c w
open Go.RowKit Go.Lib in
theorem Yba.slices_Clone_string_zero (a : Addr) (c : Nat) (w : World) :
    Calls Yba.prog 4 #[.slice (some a) 0 c] w fun e w' => ∃ v', e = .returned v' ∧ w'.ownsRow w.heap.size 9 1 v' 0 [] ∧ v' ≠ .slice none 0 0 ∧ Below w.heap.size w w' := Any.slices_Clone_string_zero Yba.laysNm216 a c w
open Go.RowKit Go.Sort in
theorem Yba.slices_Sort_string_none (p : Option Addr) (cap : Nat) (w : World) :
    Calls Yba.prog 5 #[.slice p 0 cap] w fun e w' => e = .returned (.tuple #[]) ∧ w' = w := Any.slices_Sort_string_none Yba.lays190 p cap w
end Go.Proofs
