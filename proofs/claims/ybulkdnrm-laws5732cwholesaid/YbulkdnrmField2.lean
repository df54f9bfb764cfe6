import Derived.Test.YbulkdnrmField
namespace Go.Proofs.Ybulkdnrm
open Go.ChangeShapes Go.WideShapes Go.ChangeAt Go.RowKit
open Go.Lib (uvarint byteCells strCells)
set_option linter.unusedSimpArgs false
set_option linter.unusedVariables false

theorem idx_run (c : ByteArray) (j : Nat) (J : Int) (hJ : J = (j : Int)) (b : UInt8) (hb : (bs c)[j]? = some b) (w : World) :
    (Instr.index 25 (.string c) (.int .i64 J)).run Yba.prog w = .ok (.int .u8 (b.toNat : Int)) w := by
  subst hJ
  have hj : j < c.size := by have := (List.getElem?_eq_some_iff.1 hb).1; simpa using this
  rw [run_index_string (P := Yba.prog) w 25 c .i64 (j : Int) Yba.underlying25]
  have e : (c[j]'hj) = b := by
    have := (List.getElem?_eq_some_iff.1 hb).2
    rw [← this]; rfl
  simp [hj, e]

theorem drop_get {l a b : Bs} {i : Nat} (h : l.drop i = a ++ b) (j : Nat) (hj : j < a.length) : l[i + j]? = a[j]? := by
  rw [← List.getElem?_drop, h, List.getElem?_append_left hj]

theorem extract_of {c : ByteArray} {a L : Nat} {P R pre : Bs} (h : (bs c).drop a = P ++ R) (hL : P.length = L) : bs (c.extract a (a + L)) = P := by
  show (c.extract a (a + L)).data.toList = P
  rw [Lib.extract_data, show a + L - a = L by omega]
  have : c.data.toList.drop a = P ++ R := h
  rw [this, ← hL, List.take_left]

/-- 'field' at a place where a length and as many bytes stand -/
theorem field_any (c : ByteArray) (i L : Nat) (P R : Bs) (w : World) (hs : (c.size : Int) ≤ 2147483648) (hL : P.length = L) (hb : L < 2097152) (hc : (bs c).drop i = uvarint L ++ (P ++ R)) :
    Calls Yba.prog 13 #[.string c, .int .i64 i] w fun e w' => ∃ s, e = .returned (.tuple #[.string s, .int .i64 ((i + (uvarint L).length + L : Nat) : Int)]) ∧ bs s = P ∧ w' = w := by
  have hlen : i + (uvarint L).length + L ≤ c.size := by
    have h1 := congrArg List.length hc
    have h2 := Lib.uvarint_pos L
    simp at h1
    omega
  have hx : ∀ k, (uvarint L).length = k → bs (c.extract (i + k) (i + k + L)) = P := by
    intro k hk
    refine extract_of (pre := []) (R := R) ?_ hL
    rw [← List.drop_drop, hc, ← hk, List.drop_left]
  by_cases h0 : L < 128
  · have eu : uvarint L = [L.toUInt8] := Lib.uvarint_small h0
    rw [eu] at hc hlen hx ⊢
    have g0 := drop_get hc 0 (by simp)
    have hn : L.toUInt8.toNat = L := by simp; omega
    have i0 := idx_run c i (i : Int) rfl L.toUInt8 (by simpa using g0)
    rw [hn] at i0
    refine (field0 c i L w (by omega) hs i0 (by simpa using hlen)).mono ?_
    rintro e w' ⟨rfl, rfl⟩
    exact ⟨_, rfl, hx 1 rfl, rfl⟩
  by_cases h1 : L < 16384
  · have eu : uvarint L = [(L % 128 + 128).toUInt8, (L / 128).toUInt8] := by
      rw [Lib.uvarint_big (by omega), Lib.uvarint_small (by omega)]
    rw [eu] at hc hlen hx ⊢
    have g0 := drop_get hc 0 (by simp)
    have g1 := drop_get hc 1 (by simp)
    have n0 : (L % 128 + 128).toUInt8.toNat = L % 128 + 128 := by simp; omega
    have n1 : (L / 128).toUInt8.toNat = L / 128 := by simp; omega
    have i0 := idx_run c i (i : Int) rfl (L % 128 + 128).toUInt8 g0
    have i1 := idx_run c (i + 1) ((i : Int) + 1) (by omega) (L / 128).toUInt8 g1
    rw [n0] at i0
    rw [n1] at i1
    refine (field1 c i (L % 128 + 128) (L % 128) (L / 128) L w (by omega) (by omega) hs i0 i1 ?_ (or0 _ (by omega)) ?_ (by omega) (by simpa using hlen)).mono ?_
    · rw [and127 _ (by omega)]; omega
    · rw [or7 _ _ (by omega) (by omega)]; omega
    · rintro e w' ⟨rfl, rfl⟩
      exact ⟨_, rfl, hx 2 rfl, rfl⟩
  · have eu : uvarint L = [(L % 128 + 128).toUInt8, (L / 128 % 128 + 128).toUInt8, (L / 128 / 128).toUInt8] := by
      rw [Lib.uvarint_big (by omega), Lib.uvarint_big (by omega), Lib.uvarint_small (by omega)]
    rw [eu] at hc hlen hx ⊢
    have g0 := drop_get hc 0 (by simp)
    have g1 := drop_get hc 1 (by simp)
    have g2 := drop_get hc 2 (by simp)
    have n0 : (L % 128 + 128).toUInt8.toNat = L % 128 + 128 := by simp; omega
    have n1 : (L / 128 % 128 + 128).toUInt8.toNat = L / 128 % 128 + 128 := by simp; omega
    have n2 : (L / 128 / 128).toUInt8.toNat = L / 128 / 128 := by simp; omega
    have i0 := idx_run c i (i : Int) rfl (L % 128 + 128).toUInt8 g0
    have i1 := idx_run c (i + 1) ((i : Int) + 1) (by omega) (L / 128 % 128 + 128).toUInt8 g1
    have i2 := idx_run c (i + 2) ((i : Int) + 1 + 1) (by omega) (L / 128 / 128).toUInt8 g2
    rw [n0] at i0
    rw [n1] at i1
    rw [n2] at i2
    refine (field2 c i (L % 128 + 128) (L % 128) (L / 128 % 128 + 128) (L / 128 % 128) (L % 128 + L / 128 % 128 * 128) (L / 128 / 128) L w (by omega) (by omega) (by omega) hs i0 i1 i2 ?_ ?_ (or0 _ (by omega)) ?_ ?_ (by omega) (by omega) (by simpa using hlen)).mono ?_
    · rw [and127 _ (by omega)]; omega
    · rw [and127 _ (by omega)]; omega
    · rw [or7 _ _ (by omega) (by omega)]
    · rw [or14 _ _ (by omega) (by omega)]; omega
    · rintro e w' ⟨rfl, rfl⟩
      exact ⟨_, rfl, hx 3 rfl, rfl⟩
end Go.Proofs.Ybulkdnrm
