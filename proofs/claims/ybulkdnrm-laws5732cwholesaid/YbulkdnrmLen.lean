import Derived.Test.YbulkdnrmRows
import Derived.Test.YbulkdnrmShelf
import Derived.WalkKit
import Derived.ProofKit
import Derived.OpenShut
import Derived.ShutString
import Derived.WalkLawsBesides
import Derived.Outline
import Derived.Below
import Derived.Lib.AppendStr
import Derived.Lib.Varint
import Derived.Laws.BytesString
import Derived.Laws.BitsAllLaws
import Derived.Lib.Builder
import Derived.Maps.AppendAt
import Derived.Sort.Walk0
namespace Go.Proofs.Ybulkdnrm
open Go.ChangeShapes Go.WideShapes Go.ChangeAt Go.RowKit
open Go.Lib (uvarint byteCells strCells)
set_option linter.unusedSimpArgs false
set_option linter.unusedVariables false

abbrev Bs := List UInt8
/-- the bytes of a string -/
abbrev bs (s : ByteArray) : Bs := s.data.toList

theorem Yba.info5 : (Yba.prog.info? 5).map (fun i => (i.zero, i.size, i.bytes)) = some (some (.int .u8 0), 1, 1) := by kernel_rfl

theorem byteCells_append (a b : Bs) : byteCells (a ++ b) = byteCells a ++ byteCells b := by simp [byteCells]
theorem byteCells_one (x : Nat) (h : x < 256) : byteCells [x.toUInt8] = [.int .u8 (x : Int)] := by
  simp [byteCells]; omega

set_option maxHeartbeats 800000 in
theorem len_any (B n x0 : Nat) (v0 : Value) (xs : List Value) (w : World) (hx : (x0 : Int) ≤ 4194304) (hn : (n : Int) ≤ 1099511627776) (hB : B ≤ w.heap.size) (hown0 : w.ownsRow B 5 1 v0 n xs) :
    Calls Yba.prog 7 #[v0, .int .i64 x0] w fun e w' => ∃ v', e = .returned v' ∧ w'.ownsRow B 5 1 v' (n + (uvarint x0).length) (xs ++ byteCells (uvarint x0)) ∧ Below B w w' := by
  obtain ⟨i0, hi, hz0, hz1, hz2⟩ := info_parts Yba.info5
  go_enter Yba.func7, Yba.ntmps7
  go_wp2
  go_loopw [0, 5] (fun v u wr => ∃ (x : Nat) (pre : Bs), u = .int .u64 x ∧ (x : Int) ≤ 4194304 ∧ Hid (pre ++ uvarint x = uvarint x0) ∧ (pre.length : Int) ≤ 10 ∧ wr.ownsRow B 5 1 v (n + pre.length) (xs ++ byteCells pre) ∧ Below B w wr)
    (fun _ u _ => (intOf u).toNat)
  case atStart => exact ⟨x0, [], rfl, hx, rfl, by simp, by simpa [byteCells] using hown0, Below.refl _ _⟩
  case round =>
    obtain ⟨x, pre, rfl, hx1, HP, hpl, hown, hbel⟩ := hrel
    have hsz := hbel.size
    by_cases hge : (128 : Int) ≤ (x : Int)
    · have hor : bits .or .u8 ((x : Int) % 256) 128 = ((x % 128 + 128 : Nat) : Int) := by
        rw [Lib.u8_or128_any _ (by omega) (by omega)]; omega
      have hxs : x % 128 + 128 < 256 := by omega
      go_wp2_with (at_builtin; refine wpList_append_own _ rfl _ _ 29 rfl B 5 i0 (.int .u8 0) 1 1 Yba.underlying29 hi hz0 hz1 hz2 rfl (by decide) _ _ _ rfl (hown.alloc _) ⟨wr.heap.size, 0, none⟩ 1 1 [.int .u8 ((x % 128 + 128 : Nat) : Int)] rfl rfl ?c1 ?c2 ?c3 ?c4 ?c5 ?_)
      case c1 => exact cell_one_new _ _ _
      case c2 => intro u hu; simp at hu; subst hu; rfl
      case c3 => unfold maxLen; omega
      case c4 => omega
      case c5 => simp; omega
      intro v' w1 hown' hgrow hne
      have hbel' : Below B w w1 := (hbel.alloc (by omega) _).grown hgrow (by simp; omega) (fun q hq => (hown.lt q hq).1)
      have H2 : Hid ((pre ++ [(x % 128 + 128).toUInt8]) ++ uvarint (x / 128) = uvarint x0) := by
        have := HP.out
        rw [Lib.uvarint_big (by omega)] at this
        rw [List.append_assoc]; exact this
      have hown2 : w1.ownsRow B 5 1 v' (n + (pre ++ [(x % 128 + 128).toUInt8]).length) (xs ++ byteCells (pre ++ [(x % 128 + 128).toUInt8])) := by
        rw [byteCells_append, byteCells_one _ hxs, List.length_append]
        simpa [Nat.add_assoc] using hown'
      have HO : Hid _ := hown2
      have hpl2 : ((pre.length + 1 : Nat) : Int) ≤ 10 := by
        have h1 : (uvarint x0).length ≤ 10 := Lib.uvarint_length64 (by omega)
        have h2 := congrArg List.length H2.out
        have h3 := Lib.uvarint_pos (x / 128)
        simp at h2
        omega
      clear hown' hgrow hne hown2 hown hxs hor
      go_wp2
      go_roundw
      case rel => exact ⟨x / 128, pre ++ [(x % 128 + 128).toUInt8], by go_num, by omega, H2, by simpa using hpl2, HO.out, hbel'⟩
      case measure => simp [intOf]; omega
    · have hmod : (x : Int) % 256 = (x : Int) := by omega
      go_wp2_with (at_builtin; refine wpList_append_own _ rfl _ _ 29 rfl B 5 i0 (.int .u8 0) 1 1 Yba.underlying29 hi hz0 hz1 hz2 rfl (by decide) _ _ _ rfl (hown.alloc _) ⟨wr.heap.size, 0, none⟩ 1 1 [.int .u8 (x : Int)] rfl rfl ?d1 ?d2 ?d3 ?d4 ?d5 ?_)
      case d2 => first | rfl | (intro u hu; simp at hu; subst hu; rfl)
      case d3 => unfold maxLen; omega
      case d4 => omega
      case d5 => first | omega | (simp; omega)
      intro v' w1 hown' hgrow hne
      have hbel' : Below B w w1 := (hbel.alloc (by omega) _).grown hgrow (by simp; omega) (fun q hq => (hown.lt q hq).1)
      have H2 : pre ++ [x.toUInt8] = uvarint x0 := by
        have := HP.out
        rwa [Lib.uvarint_small (by omega)] at this
      have hown3 : w1.ownsRow B 5 1 v' (n + (uvarint x0).length) (xs ++ byteCells (uvarint x0)) := by
        rw [← H2, byteCells_append, byteCells_one _ (by omega), List.length_append]
        simpa [Nat.add_assoc] using hown'
      have hown2 : Hid _ := hown3
      clear hown' hgrow hne H2 hown3
      go_wp2
      go_ret
      exact ⟨_, rfl, hown2.out, hbel'⟩
end Go.Proofs.Ybulkdnrm
