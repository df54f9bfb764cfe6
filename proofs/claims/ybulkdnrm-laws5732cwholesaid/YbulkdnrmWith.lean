import Derived.Test.YbulkdnrmBuilder
namespace Go.Proofs.Ybulkdnrm
open Go.ChangeShapes Go.WideShapes Go.ChangeAt Go.RowKit
open Go.Lib (uvarint byteCells strCells)
set_option linter.unusedSimpArgs false
set_option linter.unusedVariables false

/-- the entry that is put in -/
def insB (key nv : Bs) : Bs := if nv = [] then [] else enc1 key nv
/-- what 'with' answers -/
def WithPost (E : List En) (key nv : Bs) (e : Ending) : Prop :=
  ∃ pre mid post s, KeyPlace E key pre mid post ∧ e = .returned (.string s) ∧ bs s = encE pre ++ (insB key nv ++ encE post)

theorem empty_true {s : ByteArray} (h : bs s = []) : s.toList.isEmpty = true := by
  rw [ByteArray.toList_eq]
  show (bs s).isEmpty = true
  rw [h]; rfl
theorem empty_false {s : ByteArray} (h : bs s ≠ []) : s.toList.isEmpty = false := by
  rw [ByteArray.toList_eq]
  show (bs s).isEmpty = false
  cases hb : bs s with
  | nil => exact absurd hb h
  | cons a l => rfl

theorem ws (b : Nat) (X : Bs) (s : ByteArray) (w : World) (h : Bld b b (byteCells X) w) (hX : (X.length : Int) ≤ 1099511627776 - 4294967296) (hs : (s.size : Int) ≤ 4294967296) (hB : b ≤ w.heap.size) :
    Calls Yba.prog 10 #[.pointer (some ⟨b, 0, none⟩), .string s] w fun e w' => e = .returned (.tuple #[.int .i64 s.size, .nilIface]) ∧ Bld b b (byteCells (X ++ bs s)) w' ∧ Below b w w' := by
  rw [byteCells_append, ← strCells_eq]
  exact writeString_any b b _ s w h (by rw [Lib.byteCells_length]; omega) hB
theorem wl (b n : Nat) (N : Int) (hN : N = (n : Int)) (X : Bs) (w : World) (h : Bld b b (byteCells X) w) (hX : (X.length : Int) ≤ 1099511627776 - 4294967296) (hn : (n : Int) ≤ 4194304) (hB : b ≤ w.heap.size) :
    Calls Yba.prog 11 #[.pointer (some ⟨b, 0, none⟩), .int .i64 N] w fun e w' => e = .returned (.tuple #[]) ∧ Bld b b (byteCells (X ++ uvarint n)) w' ∧ Below b w w' := by
  subst hN
  rw [byteCells_append]
  exact writeLength_any b b n _ w h hn (by rw [Lib.byteCells_length]; omega) hB
theorem wstr (b : Nat) (X : Bs) (w : World) (h : Bld b b (byteCells X) w) (hB : b ≤ w.heap.size) :
    Calls Yba.prog 12 #[.pointer (some ⟨b, 0, none⟩)] w fun e w' => e = .returned (.string ⟨X.toArray⟩) ∧ Below b w w' :=
  Yba.Builder_String_any b b X w (.inr h) hB

set_option maxRecDepth 20000 in
set_option maxHeartbeats 1000000 in
theorem with_any (c key value more : ByteArray) (E : List En) (w : World) (hs : (c.size : Int) ≤ 1073741824) (hE : bs c = encE E) (hb : ∀ e ∈ E, e.1.length < 2097152 ∧ e.2.length < 2097152)
    (hk : (key.size : Int) ≤ 1048576) (hv : (value.size : Int) ≤ 1048576) (hm : (more.size : Int) ≤ 1048576) :
    Calls Yba.prog 6 #[.string c, .string key, .string value, .string more] w fun e w' => WithPost E (bs key) (bs value ++ bs more) e ∧ Below w.heap.size w w' := by
  go_enter Yba.func6, Yba.ntmps6
  go_wp2_with fail
  refine (entry_any c key E _ (by omega) hE hb).mono ?_
  rintro e w0 ⟨⟨pre, mid, post, s0, hpl, rfl⟩, rfl⟩
  obtain ⟨st, hst⟩ : ∃ st, (encE pre).length = st := ⟨_, rfl⟩
  obtain ⟨en, hen⟩ : ∃ en, (encE (pre ++ mid)).length = en := ⟨_, rfl⟩
  have hle : (st : Int) ≤ (en : Int) := by rw [← hst, ← hen, encE_append, List.length_append]; omega
  have hcs : c.size = en + (encE post).length := by
    have h1 : (bs c).length = c.size := by simp
    rw [← h1, hE, hpl.whole, ← List.append_assoc, encE_append, List.length_append, hen]
  have hen2 : (en : Int) ≤ (c.size : Int) := by omega
  rw [hst, hen]
  have HCS : Hid _ := hcs
  have HST : Hid _ := hst
  have HEN : Hid _ := hen
  have HPL : Hid _ := hpl
  have HE : Hid _ := hE
  clear hcs hst hen hpl hE hb
  simp only []
  go_wp2_with fail
  obtain ⟨G, hG⟩ : ∃ G : Nat, (c.size : Int) - ((en : Int) - (st : Int)) + (key.size : Int) + (value.size : Int) + (more.size : Int) + 20 = (G : Int) := ⟨((c.size : Int) - ((en : Int) - (st : Int)) + (key.size : Int) + (value.size : Int) + (more.size : Int) + 20).toNat, by omega⟩
  rw [hG]
  have hGb : G ≤ 281474976710656 := by omega
  clear hG
  obtain ⟨b, hbb⟩ : ∃ b, w0.heap.size = b := ⟨_, rfl⟩
  obtain ⟨W0, hW0⟩ : ∃ W0, W0 = w0.alloc (.cells #[.pointer none, .slice none 0 0] 35) := ⟨_, rfl⟩
  have hbA : Below b w0 W0 := by rw [hW0, ← hbb]; exact (Below.refl _ _).alloc (Nat.le_refl _) _
  have hsA : W0.heap.size = b + 1 := by rw [hW0, ← hbb]; simp
  have hbk : W0.heap[b]? = some (.cells #[.pointer none, .slice none 0 0] 35 (0, 0)) := by rw [hW0, ← hbb]; exact heap_alloc_new _ _
  rw [← hW0, hbb]
  have HBB : Hid _ := hbb
  clear hW0 hbb
  refine (Yba.Builder_Grow_fresh b b G W0 (Nat.le_refl _) hbk (by omega) hGb).mono ?_
  rintro e w1 ⟨rfl, hB1, hb1⟩
  have hs1 := hb1.size
  clear hbk hGb
  simp only []
  go_wp2_with fail
  refine (writeString_any b b [] (c.extract 0 st) _ hB1 (by simp; omega) (by omega)).mono ?_
  rintro e w2 ⟨rfl, hB2, hb2⟩
  have hs2 := hb2.size
  have hb02 : Below b w0 w2 := (hbA.trans hb1).trans hb2
  have hX : bs (c.extract 0 st) = encE pre := by
    show (c.extract 0 st).data.toList = _
    rw [Lib.extract_data, List.drop_zero, Nat.sub_zero, ← HST.out]
    have : c.data.toList = encE E := HE.out
    rw [this, HPL.out.whole, encE_append, List.take_left]
  have hB3 : Bld b b (byteCells (encE pre)) w2 := by
    have := hB2
    rw [strCells_eq, hX, List.nil_append] at this
    exact this
  clear hB2 hX hB1 hb1 hbA hb2
  have hpl2 : ((encE pre).length : Int) = (st : Int) := by rw [HST.out]
  have HSL : Hid _ := hpl2
  have hplb : ((encE pre).length : Int) ≤ 1073741824 := by omega
  have hpost : Hid (bs (c.extract en c.size) = encE post) := by
    show (c.extract en c.size).data.toList = _
    have h1 : c.data.toList = encE E := HE.out
    rw [Lib.extract_data, h1, HPL.out.whole, ← List.append_assoc, encE_append, ← HEN.out, List.drop_left]
    exact List.take_of_length_le (by have := HCS.out; rw [HEN.out]; omega)
  clear hpl2
  simp only []
  by_cases hnv : bs value ++ bs more = []
  · have hv0 : bs value = [] := (List.append_eq_nil_iff.1 hnv).1
    have hm0 : bs more = [] := (List.append_eq_nil_iff.1 hnv).2
    have e1 := empty_true hv0
    have e2 := empty_true hm0
    have HNV : Hid _ := hnv
    clear hv0 hm0 hnv
    go_wp2_with fail
    refine (ws b (encE pre) (c.extract en c.size) _ hB3 (by omega) (by simp; omega) (by omega)).mono ?_
    rintro e wz ⟨rfl, hBz, hbz⟩
    have hsz := hbz.size
    simp only []
    go_wp2_with fail
    refine (wstr b _ _ hBz (by omega)).mono ?_
    rintro e wy ⟨rfl, hby⟩
    simp only []
    go_wp2
    go_ret
    refine ⟨⟨pre, mid, post, _, HPL.out, rfl, ?_⟩, ?_⟩
    · show encE pre ++ bs (c.extract en c.size) = _
      rw [hpost.out, insB, if_pos HNV.out, List.nil_append]
    · rw [HBB.out]; exact (hb02.trans hbz).trans hby
  · have hcase : (bs value ≠ []) ∨ (bs value = [] ∧ bs more ≠ []) := by
      by_cases hv0 : bs value = []
      · exact .inr ⟨hv0, fun h => hnv (by rw [hv0, h]; rfl)⟩
      · exact .inl hv0
    have HNV : Hid _ := hnv
    clear hnv
    have u1 := Lib.uvarint_length64 (x := key.size) (by omega)
    have u2 := Lib.uvarint_length64 (x := value.size + more.size) (by omega)
    obtain ⟨y1, hy1⟩ : ∃ y, (uvarint key.size).length = y := ⟨_, rfl⟩
    obtain ⟨y2, hy2⟩ : ∃ y, (uvarint (value.size + more.size)).length = y := ⟨_, rfl⟩
    rw [hy1] at u1
    rw [hy2] at u2
    have HY1 : Hid _ := hy1
    have HY2 : Hid _ := hy2
    clear hy1 hy2
    have hX1 : Hid (((encE pre ++ uvarint key.size).length : Int) ≤ 1073741824 + 10) := by show _ ≤ _; rw [List.length_append, HY1.out]; omega
    have hX2 : Hid (((encE pre ++ uvarint key.size ++ bs key).length : Int) ≤ 1073741824 + 10 + 1048576) := by
      show _ ≤ _; have := hX1.out; rw [List.length_append]; simp at *; omega
    have hX3 : Hid (((encE pre ++ uvarint key.size ++ bs key ++ uvarint (value.size + more.size)).length : Int) ≤ 1073741824 + 20 + 1048576) := by
      show _ ≤ _; have := hX2.out; rw [List.length_append, HY2.out]; omega
    have hX4 : Hid (((encE pre ++ uvarint key.size ++ bs key ++ uvarint (value.size + more.size) ++ bs value).length : Int) ≤ 1073741824 + 20 + 1048576 + 1048576) := by
      show _ ≤ _; have := hX3.out; rw [List.length_append]; simp at *; omega
    have hX5 : Hid (((encE pre ++ uvarint key.size ++ bs key ++ uvarint (value.size + more.size) ++ bs value ++ bs more).length : Int) ≤ 1073741824 + 20 + 1048576 + 1048576 + 1048576) := by
      show _ ≤ _; have := hX4.out; rw [List.length_append]; simp at *; omega
    rcases hcase with hv0 | ⟨hv0, hm0⟩
    · have e1 := empty_false hv0
      clear hv0
      go_wp2_with fail
      refine (wl b key.size _ rfl (encE pre) _ hB3 (by omega) (by omega) (by omega)).mono ?_
      rintro e w3 ⟨rfl, hB4, hb3⟩
      have hs3 := hb3.size
      simp only []
      go_wp2_with fail
      refine (ws b _ key _ hB4 (by have := hX1.out; omega) (by omega) (by omega)).mono ?_
      rintro e w4 ⟨rfl, hB5, hb4⟩
      have hs4 := hb4.size
      simp only []
      go_wp2_with fail
      refine (wl b (value.size + more.size) _ (by omega) _ _ hB5 (by have := hX2.out; omega) (by omega) (by omega)).mono ?_
      rintro e w5 ⟨rfl, hB6, hb5⟩
      have hs5 := hb5.size
      simp only []
      go_wp2_with fail
      refine (ws b _ value _ hB6 (by have := hX3.out; omega) (by omega) (by omega)).mono ?_
      rintro e w6 ⟨rfl, hB7, hb6⟩
      have hs6 := hb6.size
      simp only []
      go_wp2_with fail
      refine (ws b _ more _ hB7 (by have := hX4.out; omega) (by omega) (by omega)).mono ?_
      rintro e w7 ⟨rfl, hB8, hb7⟩
      have hs7 := hb7.size
      simp only []
      go_wp2_with fail
      refine (ws b _ (c.extract en c.size) _ hB8 (by have := hX5.out; omega) (by simp; omega) (by omega)).mono ?_
      rintro e wz ⟨rfl, hBz, hbz⟩
      have hsz := hbz.size
      simp only []
      go_wp2_with fail
      refine (wstr b _ _ hBz (by omega)).mono ?_
      rintro e wy ⟨rfl, hby⟩
      simp only []
      go_wp2
      go_ret
      refine ⟨⟨pre, mid, post, _, HPL.out, rfl, ?_⟩, ?_⟩
      · show encE pre ++ uvarint key.size ++ bs key ++ uvarint (value.size + more.size) ++ bs value ++ bs more ++ bs (c.extract en c.size) = _
        rw [hpost.out, insB, if_neg HNV.out, enc1]
        have l1 : (bs key).length = key.size := by simp
        have l2 : (bs value ++ bs more).length = value.size + more.size := by simp
        rw [l1, l2]
        simp
      · rw [HBB.out]; exact ((((((hb02.trans hb3).trans hb4).trans hb5).trans hb6).trans hb7).trans hbz).trans hby
    · have e1 := empty_true hv0
      have e2 := empty_false hm0
      clear hv0 hm0
      go_wp2_with fail
      refine (wl b key.size _ rfl (encE pre) _ hB3 (by omega) (by omega) (by omega)).mono ?_
      rintro e w3 ⟨rfl, hB4, hb3⟩
      have hs3 := hb3.size
      simp only []
      go_wp2_with fail
      refine (ws b _ key _ hB4 (by have := hX1.out; omega) (by omega) (by omega)).mono ?_
      rintro e w4 ⟨rfl, hB5, hb4⟩
      have hs4 := hb4.size
      simp only []
      go_wp2_with fail
      refine (wl b (value.size + more.size) _ (by omega) _ _ hB5 (by have := hX2.out; omega) (by omega) (by omega)).mono ?_
      rintro e w5 ⟨rfl, hB6, hb5⟩
      have hs5 := hb5.size
      simp only []
      go_wp2_with fail
      refine (ws b _ value _ hB6 (by have := hX3.out; omega) (by omega) (by omega)).mono ?_
      rintro e w6 ⟨rfl, hB7, hb6⟩
      have hs6 := hb6.size
      simp only []
      go_wp2_with fail
      refine (ws b _ more _ hB7 (by have := hX4.out; omega) (by omega) (by omega)).mono ?_
      rintro e w7 ⟨rfl, hB8, hb7⟩
      have hs7 := hb7.size
      simp only []
      go_wp2_with fail
      refine (ws b _ (c.extract en c.size) _ hB8 (by have := hX5.out; omega) (by simp; omega) (by omega)).mono ?_
      rintro e wz ⟨rfl, hBz, hbz⟩
      have hsz := hbz.size
      simp only []
      go_wp2_with fail
      refine (wstr b _ _ hBz (by omega)).mono ?_
      rintro e wy ⟨rfl, hby⟩
      simp only []
      go_wp2
      go_ret
      refine ⟨⟨pre, mid, post, _, HPL.out, rfl, ?_⟩, ?_⟩
      · show encE pre ++ uvarint key.size ++ bs key ++ uvarint (value.size + more.size) ++ bs value ++ bs more ++ bs (c.extract en c.size) = _
        rw [hpost.out, insB, if_neg HNV.out, enc1]
        have l1 : (bs key).length = key.size := by simp
        have l2 : (bs value ++ bs more).length = value.size + more.size := by simp
        rw [l1, l2]
        simp
      · rw [HBB.out]; exact ((((((hb02.trans hb3).trans hb4).trans hb5).trans hb6).trans hb7).trans hbz).trans hby
end Go.Proofs.Ybulkdnrm
