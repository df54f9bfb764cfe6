import Derived.Test.YbulkdnrmLaw
import Derived.ChangeOld
import Derived.SliceStrings
import Derived.SizedLaws
namespace Go.Proofs.Ybulkdnrm.lawS5732CWhole
open Go.ChangeShapes Go.WideShapes Go.ChangeAt Go.RowKit
open Go.ChangeMaps (open_string shut_string)
set_option linter.unusedVariables false
set_option linter.unusedSimpArgs false

theorem own : ownKnob Yba.prog.godebug = none := by kernel_rfl
theorem laidOut : laidOutB Yba.prog = true := by kernel_rfl
theorem cells9 : Yba.prog.cellsOf 9 = 1 := by kernel_rfl
theorem bytes9 : Yba.prog.bytesOf 9 = 16 := by kernel_rfl

theorem open_rows {H : Type} {enc : TypeId × Value → H} {W : World} {spare : Nat → Bool} {held : Bool} {a : Option Addr} {len cap fuel : Nat} {x : DataW H × List MemPlace}
    (h : DataW.trod enc Yba.prog W 0 spare held fuel 22 [.slice a len cap] = some x) : ∃ (g o : Nat) (f : Nat → ByteArray), StrsAt W a len g o f ∧ (len = 0 ∨ ∃ ss sp, x.1 = .slice (strs ss) sp ∧ ss.length = len ∧ ∀ j, j < len → f j ∈ ss) := by
  rcases open_strings Yba.underlying22 Yba.underlying9 cells9 h with ⟨hcs, _⟩ | ⟨ad, l, c, ss, hcs, _, hl, hm, hz, hx, hcell, hws⟩
  · simp at hcs
    obtain ⟨rfl, rfl, rfl⟩ := hcs
    exact ⟨0, 0, fun _ => ByteArray.empty, ⟨by omega, by omega, by omega⟩, .inl rfl⟩
  · simp at hcs
    obtain ⟨rfl, rfl, rfl⟩ := hcs
    have hlz : len ≤ ss.length := by rw [hz]; split <;> omega
    obtain ⟨b, o, spot⟩ := ad
    have hsp : 0 < len → spot = none := fun hp => by simpa [Addr.add] using World.cell?_spot (hcell 0 (by omega))
    refine ⟨b, o, fun j => ss.getD j ByteArray.empty, ⟨fun hp => by rw [hsp hp], fun hp => ?_, fun j hj => ?_⟩, .inr ⟨ss.take len, strs (ss.drop len), by rw [hx], by simp; omega, fun j hj => ?_⟩⟩
    · have := World.block_lt_of_cell? _ _ (hcell 0 (by omega))
      simpa [Addr.add] using this
    · have := hcell j (by omega)
      rw [hsp (by omega), Addr.add_lit] at this
      exact this
    · have hj' : j < ss.length := by omega
      have hjt : j < (ss.take len).length := by simp; omega
      have e : (ss.take len)[j] = ss.getD j ByteArray.empty := by simp [List.getD, hj']
      show ss.getD j ByteArray.empty ∈ _
      rw [← e]
      exact List.getElem_mem hjt

theorem weightsAll_mem {H : Type} {P : Program} {e : TypeId} {s : ByteArray} : ∀ (ss : List ByteArray), s ∈ ss → s.size ∈ DataW.weightsAll (H := H) P e (strs ss)
  | [], h => by cases h
  | t :: ss, h => by
    simp only [strs, List.map_cons, DataW.weightsAll, DataW.weights, List.mem_append]
    rcases List.mem_cons.1 h with rfl | h
    · left; simp
    · right; exact weightsAll_mem ss h
theorem sized_elems {H : Type} {P : Program} {ts : List TypeId} {ds : List (DataW H)} (h : (DataW.weightsEach P ts ds).all (· ≤ reachBytes) = true) {j : Nat} {t e : TypeId} {ss : List ByteArray} {sp : List (DataW H)} (ht : ts[j]? = some t) (hd : ds[j]? = some (.slice (strs ss) sp)) (hu : P.underlying t = some (.slice e)) {s : ByteArray} (hs : s ∈ ss) :
    s.size ≤ reachBytes := by
  have := List.all_eq_true.1 h _ (DataW.weights_mem_each ht hd s.size (by
    simp only [DataW.weights, hu, List.mem_cons, List.mem_append]
    exact .inr (.inl (weightsAll_mem ss hs))))
  simpa using this

set_option maxRecDepth 100000 in
theorem lifted (os : Os) (started : os.Started) (H : Type) (enc : TypeId × Value → H) :
    ReturnsInHanded {} Yba.checked os 3 .any (Rows.lawS5732CWholeSpec.pre6 enc Yba.prog Yba.f3 Rows.lawS5732CWholeRow.domain false) (Rows.lawS5732CWholeSpec.post enc Yba.prog Yba.f3 false true false false) := by
  refine returnsInHanded_of_change_sized (C := Yba.checked) own started (by kernel_rfl) Yba.func3
    (ChangeSpec.witness6 (enc := enc) (C := Yba.checked) false ⟨#[], #[.slice none 0 0, .slice none 0 0, .string ByteArray.empty, .string ByteArray.empty, .string ByteArray.empty], []⟩ 8 (by kernel_rfl) (by kernel_rfl) (by kernel_rfl) (by kernel_rfl)) ?_
  intro W base args ds gs before hval0 hW hcnd hsz0 hholds
  have hsz : (DataW.weightsEach Yba.prog (Yba.f3.params.toList ++ Rows.lawS5732CWholeSpec.plain.varTypes Yba.prog) (ds ++ gs)).all (· ≤ reachBytes) = true := hsz0
  have hval : ∀ (j : Nat) t v, Yba.f3.params[j]? = some t → args[j]? = some v → Value.okWide Yba.prog W .any base t v := hval0
  have hW' := hW
  obtain ⟨p, q, hA0, hV, rfl, hfz, hnd⟩ := hW
  have hA : DataW.TrodAll enc Yba.prog W 0 (fun _ => true) true Yba.f3.params.toList args.toList ds p := hA0
  rw [Yba.params3] at hA hval hsz
  obtain ⟨v0, vs0, d0, ds0, p0, q0, hargs, rfl, rfl, h0, r0⟩ := trodAll_cons hA
  obtain ⟨v1, vs1, d1, ds1, p1, q1, rfl, rfl, rfl, h1, r1⟩ := trodAll_cons r0
  obtain ⟨v2, vs2, d2, ds2, p2, q2, rfl, rfl, rfl, h2, r2⟩ := trodAll_cons r1
  obtain ⟨v3, vs3, d3, ds3, p3, q3, rfl, rfl, rfl, h3, r3⟩ := trodAll_cons r2
  obtain ⟨v4, vs4, d4, ds4, p4, q4, rfl, rfl, rfl, h4, r4⟩ := trodAll_cons r3
  obtain ⟨rfl, rfl, rfl⟩ := trodAll_nil r4
  obtain rfl : args = #[v0, v1, v2, v3, v4] := by cases args; simp_all
  obtain ⟨rfl, rfl⟩ := trodVars_none hV
  obtain ⟨a0, len0, cap0, rfl⟩ := okWide_slice Yba.underlying22 (hval 0 22 v0 rfl rfl)
  have k0 := h0
  have lt0 : ∀ x ∈ p0, x.block < W.heap.size := by obtain ⟨m, hm⟩ := k0; exact DataW.trod_lt m _ _ _ hm
  obtain ⟨b0, o0, f0, w0, m0'⟩ : ∃ (g o : Nat) (f : Nat → ByteArray), StrsAt W a0 len0 g o f ∧ (len0 = 0 ∨ ∃ ss sp, d0 = .slice (strs ss) sp ∧ ss.length = len0 ∧ ∀ j, j < len0 → f j ∈ ss) := by
    obtain ⟨fuel, hf⟩ := h0
    exact open_rows hf
  obtain ⟨m0, n0⟩ : (len0 : Int) ≤ 140737488351232 ∧ ∀ j, j < len0 → ((f0 j).size : Int) ≤ 140737488355328 := by
    rcases m0' with h | ⟨ss, spr, h, hl, hm⟩
    · exact ⟨by omega, fun j hj => by omega⟩
    · subst h
      refine ⟨?_, fun j hj => ?_⟩
      · have := sized_slice hsz (j := 0) (t := 22) (e := 9) rfl rfl Yba.underlying22
        rw [bytes9] at this
        simp only [reachBytes, strs, List.length_map] at this
        omega
      · have := sized_elems hsz (j := 0) (t := 22) (e := 9) rfl rfl Yba.underlying22 (hm j hj)
        simp only [reachBytes] at this
        omega
  obtain ⟨a1, len1, cap1, rfl⟩ := okWide_slice Yba.underlying22 (hval 1 22 v1 rfl rfl)
  have k1 := h1
  have lt1 : ∀ x ∈ p1, x.block < W.heap.size := by obtain ⟨m, hm⟩ := k1; exact DataW.trod_lt m _ _ _ hm
  obtain ⟨b1, o1, f1, w1, m1'⟩ : ∃ (g o : Nat) (f : Nat → ByteArray), StrsAt W a1 len1 g o f ∧ (len1 = 0 ∨ ∃ ss sp, d1 = .slice (strs ss) sp ∧ ss.length = len1 ∧ ∀ j, j < len1 → f j ∈ ss) := by
    obtain ⟨fuel, hf⟩ := h1
    exact open_rows hf
  obtain ⟨m1, n1⟩ : (len1 : Int) ≤ 140737488351232 ∧ ∀ j, j < len1 → ((f1 j).size : Int) ≤ 140737488355328 := by
    rcases m1' with h | ⟨ss, spr, h, hl, hm⟩
    · exact ⟨by omega, fun j hj => by omega⟩
    · subst h
      refine ⟨?_, fun j hj => ?_⟩
      · have := sized_slice hsz (j := 1) (t := 22) (e := 9) rfl rfl Yba.underlying22
        rw [bytes9] at this
        simp only [reachBytes, strs, List.length_map] at this
        omega
      · have := sized_elems hsz (j := 1) (t := 22) (e := 9) rfl rfl Yba.underlying22 (hm j hj)
        simp only [reachBytes] at this
        omega
  obtain ⟨s2, rfl, rfl, rfl, w2⟩ := open_string Yba.underlying9 (hval 2 9 v2 rfl rfl) h2
  obtain ⟨s3, rfl, rfl, rfl, w3⟩ := open_string Yba.underlying9 (hval 3 9 v3 rfl rfl) h3
  obtain ⟨s4, rfl, rfl, rfl, w4⟩ := open_string Yba.underlying9 (hval 4 9 v4 rfl rfl) h4
  have z2 : (s2.size : Int) ≤ 140737488355328 := by
    have : s2.size ≤ reachBytes := sized_string hsz (j := 2) (t := 9) rfl rfl
    simp only [reachBytes] at this
    omega
  have z3 : (s3.size : Int) ≤ 140737488355328 := by
    have : s3.size ≤ reachBytes := sized_string hsz (j := 3) (t := 9) rfl rfl
    simp only [reachBytes] at this
    omega
  have z4 : (s4.size : Int) ≤ 140737488355328 := by
    have : s4.size ≤ reachBytes := sized_string hsz (j := 4) (t := 9) rfl rfl
    simp only [reachBytes] at this
    omega
  clear hA0 hval0
  refine (law_any a0 a1 len0 cap0 len1 cap1 b0 o0 b1 o1 f0 f1 s2 s3 s4 W m0 m1 w0 w1 n0 n1 z2 z3 z4).mono fun e W' ⟨he, bel⟩ => ?_
  subst he
  exact ⟨_, rfl, _, _, _, [], _, [], hW', trodAll_mk1 (shut_bool Yba.underlying4 _), (trodAll_cons_mk (Below.trod laidOut (by kernel_rfl) (of_decide_eq_true (by kernel_rfl)) k0 bel lt0) (trodAll_cons_mk (Below.trod laidOut (by kernel_rfl) (of_decide_eq_true (by kernel_rfl)) k1 bel lt1) (trodAll_cons_mk (shut_string Yba.underlying9 w2) (trodAll_cons_mk (shut_string Yba.underlying9 w3) (trodAll_cons_mk (shut_string Yba.underlying9 w4) trodAll_mk0))))), rfl, bel.frame _, fun h => by cases h⟩

theorem over : Rows.lawS5732CWholeRow.holds Yba.pinned (OpenSpec.ofChange Rows.lawS5732CWholeSpec) :=
  OpenClaim.holds_of_wide 3 Yba.f3 rfl rfl rfl rfl rfl rfl rfl ⟨rfl, rfl, rfl, rfl, rfl⟩ rfl rfl rfl rfl rfl (by kernel_rfl) Yba.func3 (by kernel_rfl)
    (of_decide_eq_true (by kernel_rfl)) (by unfold Func.isWrapper; first | (rw [if_pos (by decide +kernel)]; kernel_rfl) | (rw [if_neg (by decide +kernel)]; exact ⟨rfl, rfl⟩))
    (fun os started H enc _ => lifted os started H enc)

theorem proved : Rows.LawS5732CWholeSaid := over
end Go.Proofs.Ybulkdnrm.lawS5732CWhole
