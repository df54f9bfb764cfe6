import Derived.Test.YbulkdnrmField2
namespace Go.Proofs.Ybulkdnrm
open Go.ChangeShapes Go.WideShapes Go.ChangeAt Go.RowKit
open Go.Lib (uvarint byteCells strCells)
set_option linter.unusedSimpArgs false
set_option linter.unusedVariables false

abbrev En := Bs × Bs
def encE (E : List En) : Bs := E.flatMap fun e => enc1 e.1 e.2
theorem encE_nil : encE [] = [] := rfl
theorem encE_append (A B : List En) : encE (A ++ B) = encE A ++ encE B := by simp [encE]
theorem encE_cons (e : En) (E : List En) : encE (e :: E) = enc1 e.1 e.2 ++ encE E := by simp [encE]
theorem enc1_length (k v : Bs) : (enc1 k v).length = (uvarint k.length).length + k.length + (uvarint v.length).length + v.length := by simp [enc1]; omega

theorem eq_true {s t : ByteArray} (h : bs s = bs t) : (s.toList == t.toList) = true := by
  rw [ByteArray.toList_eq, ByteArray.toList_eq, beq_iff_eq]; exact h
theorem eq_false {s t : ByteArray} (h : bs s ≠ bs t) : (s.toList == t.toList) = false := by
  rw [ByteArray.toList_eq, ByteArray.toList_eq, beq_eq_false_iff_ne]; exact h
theorem less_true {s t : ByteArray} (h : bs s < bs t) : Op.bytesLess s.toList t.toList = true := by
  rw [ByteArray.toList_eq, ByteArray.toList_eq, bytesLess_eq]; exact decide_eq_true h
theorem less_false {s t : ByteArray} (h : ¬ bs s < bs t) : Op.bytesLess s.toList t.toList = false := by
  rw [ByteArray.toList_eq, ByteArray.toList_eq, bytesLess_eq]; exact decide_eq_false h

/-- where 'entry' finds key's place -/
structure KeyPlace (E : List En) (key : Bs) (pre mid post : List En) : Prop where
  whole : E = pre ++ (mid ++ post)
  lo : ∀ e ∈ pre, e.1 < key
  md : mid = [] ∨ ∃ v, mid = [(key, v)]
  hi : mid = [] → ∀ e ∈ post.head?, key < e.1

theorem field_at (c : ByteArray) (i L nx : Nat) (P R : Bs) (w : World) (hs : (c.size : Int) ≤ 2147483648) (hL : P.length = L) (hb : L < 2097152) (hc : (bs c).drop i = uvarint L ++ (P ++ R)) (hnx : i + (uvarint L).length + L = nx) :
    Calls Yba.prog 13 #[.string c, .int .i64 i] w fun e w' => ∃ s, e = .returned (.tuple #[.string s, .int .i64 (nx : Int)]) ∧ bs s = P ∧ w' = w := by
  subst hnx
  exact field_any c i L P R w hs hL hb hc

/-- what 'entry' answers -/
def EntryPost (E : List En) (key : Bs) (e : Ending) : Prop :=
  ∃ pre mid post s, KeyPlace E key pre mid post ∧ e = .returned (.tuple #[.int .i64 ((encE pre).length : Nat), .int .i64 ((encE (pre ++ mid)).length : Nat), .string s])

set_option maxRecDepth 20000 in
set_option maxHeartbeats 1000000 in
theorem entry_any (c key : ByteArray) (E : List En) (w : World) (hs : (c.size : Int) ≤ 2147483648) (hE : bs c = encE E) (hb : ∀ e ∈ E, e.1.length < 2097152 ∧ e.2.length < 2097152) :
    Calls Yba.prog 8 #[.string c, .string key] w fun e w' => EntryPost E (bs key) e ∧ w' = w := by
  have hcs : (encE E).length = c.size := by rw [← hE]; simp
  go_enter Yba.func8, Yba.ntmps8
  go_wp2
  go_loop [4] (fun a => ∃ pre rest : List En, Hid (E = pre ++ rest) ∧ Hid (∀ e ∈ pre, e.1 < bs key) ∧ a = .int .i64 ((encE pre).length : Nat)) (fun a => c.size - (intOf a).toNat)
  case atStart => exact ⟨[], E, rfl, (fun e he => by cases he), rfl⟩
  case round =>
    obtain ⟨pre, rest, HW, HL, rfl⟩ := hrel
    cases rest with
    | nil =>
      have hpl : (encE pre).length = c.size := by rw [← hcs, HW.out]; simp
      have HP : Hid _ := hpl
      have h1 : ¬ ((encE pre).length : Int) < (c.size : Int) := by omega
      clear hpl
      go_wp2
      go_ret3
      have hp := HP.out
      exact ⟨⟨pre, [], [], ⟨#[]⟩, ⟨by simpa using HW.out, HL.out, .inl rfl, (fun _ e he => by cases he)⟩, by simp [hp]⟩, rfl⟩
    | cons e0 rest =>
      obtain ⟨k, v⟩ := e0
      have hdrop : (bs c).drop (encE pre).length = uvarint k.length ++ (k ++ (uvarint v.length ++ (v ++ encE rest))) := by
        rw [hE, HW.out, encE_append, List.drop_left, encE_cons, enc1]; simp
      have hbk := hb (k, v) (by rw [HW.out]; simp)
      have hlen : (encE pre).length + (enc1 k v).length + (encE rest).length = c.size := by
        rw [← hcs, HW.out, encE_append, encE_cons]; simp; omega
      rw [enc1_length] at hlen
      have hu1 := Lib.uvarint_pos k.length
      have hlt : ((encE pre).length : Int) < (c.size : Int) := by omega
      have HD : Hid _ := hdrop
      clear hdrop
      obtain ⟨st, hst⟩ : ∃ st, (encE pre).length = st := ⟨_, rfl⟩
      obtain ⟨nx, hnx⟩ : ∃ nx, st + (uvarint k.length).length + k.length = nx := ⟨_, rfl⟩
      obtain ⟨af, haf⟩ : ∃ af, nx + (uvarint v.length).length + v.length = af := ⟨_, rfl⟩
      have hd2 : (bs c).drop nx = uvarint v.length ++ (v ++ encE rest) := by
        have h := HD.out
        rw [← List.append_assoc, hst] at h
        rw [← hnx, Nat.add_assoc, ← List.drop_drop, h, ← List.length_append, List.drop_left]
      have HD2 : Hid _ := hd2
      have hafl : (encE (pre ++ [(k, v)])).length = af := by
        rw [encE_append, encE_cons, encE_nil, List.append_nil, List.length_append, enc1_length]; dsimp only; omega
      have hst2 : (af : Int) ≤ (c.size : Int) := by omega
      have hst3 : (st : Int) < (af : Int) := by omega
      rw [hst] at HD hlt ⊢
      have HST : Hid _ := hst
      have HNX : Hid _ := hnx
      have HAF : Hid _ := haf
      have HAL : Hid _ := hafl
      clear hst hnx haf hd2 hafl hlen
      have HC1 : Hid _ := fun wx => field_at c st k.length nx k (uvarint v.length ++ (v ++ encE rest)) wx hs rfl hbk.1 HD.out HNX.out
      have HC2 : Hid _ := fun wx => field_at c nx v.length af v (encE rest) wx hs rfl hbk.2 HD2.out HAF.out
      go_wp2_with fail
      refine (HC1.out _).mono ?_
      rintro e w1 ⟨sk, rfl, hsk, rfl⟩
      have HSK : Hid _ := hsk
      clear hsk
      simp only []
      go_wp2_with fail
      refine (HC2.out _).mono ?_
      rintro e w2 ⟨sv, rfl, hsv, rfl⟩
      clear hsv
      simp only []
      by_cases hke : k = bs key
      · have he := eq_true (HSK.out.trans hke)
        have HK : Hid _ := hke
        clear hke
        go_wp2
        go_ret3
        exact ⟨⟨pre, [(k, v)], rest, sv, ⟨by simpa using HW.out, HL.out, .inr ⟨v, by rw [HK.out]⟩, (fun h => by cases h)⟩, by rw [HST.out, HAL.out]; rfl⟩, rfl⟩
      · have he := eq_false (s := sk) (t := key) (by rw [HSK.out]; exact hke)
        have HK : Hid _ := hke
        clear hke
        by_cases hlt2 : k < bs key
        · have hl := less_true (s := sk) (t := key) (by rw [HSK.out]; exact hlt2)
          have HL2 : Hid _ := hlt2
          clear hlt2
          go_wp2
          go_round
          case rel =>
            refine ⟨pre ++ [(k, v)], rest, by show E = _; rw [HW.out]; simp, (fun e he => ?_), by rw [HAL.out]⟩
            rcases List.mem_append.1 he with h | h
            · exact HL.out e h
            · simp at h; subst h; exact HL2.out
          case measure => simp [intOf]; omega
        · have hl := less_false (s := sk) (t := key) (by rw [HSK.out]; exact hlt2)
          have HL2 : Hid _ := hlt2
          clear hlt2
          go_wp2
          go_ret3
          refine ⟨⟨pre, [], (k, v) :: rest, ⟨#[]⟩, ⟨by simpa using HW.out, HL.out, .inl rfl, (fun _ e he => ?_)⟩, by simp [HST.out]⟩, rfl⟩
          simp at he
          subst he
          exact Decidable.byContradiction fun h => HK.out (List.le_antisymm (List.not_lt.1 h) (List.not_lt.1 HL2.out))
end Go.Proofs.Ybulkdnrm
