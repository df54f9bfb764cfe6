import Derived.Test.YbulkdnqyLaw
import Derived.ChangeOld
import Derived.SliceStrings
import Derived.SizedLaws
namespace Go.Proofs.Ybulkdnqy.lawS5731BWhole
open Go.ChangeShapes Go.WideShapes Go.ChangeAt Go.RowKit
open Go.ChangeMaps (open_string shut_string)
set_option linter.unusedVariables false
set_option linter.unusedSimpArgs false

theorem own : ownKnob Yba.prog.godebug = none := by kernel_rfl
theorem laidOut : laidOutB Yba.prog = true := by kernel_rfl
theorem cells9 : Yba.prog.cellsOf 9 = 1 := by kernel_rfl
theorem bytes9 : Yba.prog.bytesOf 9 = 16 := by kernel_rfl
theorem bytes3 : Yba.prog.bytesOf 3 = 8 := by kernel_rfl
theorem cells3 : Yba.prog.cellsOf 3 = 1 := by kernel_rfl

set_option maxRecDepth 20000 in
/-- Too long: the law answers at once. -/
theorem walk_big (ak ao : Option Addr) (nk ck no co : Nat) (p : ByteArray) (w : World) (h1 : (nk : Int) ≤ 140737488351232) (h2 : (no : Int) ≤ 140737488351232) (h : (1048576 : Int) < (nk : Int) + (no : Int)) :
    Calls Yba.prog 3 #[.slice ak nk ck, .slice ao no co, .string p] w fun e w' => e = .returned (.bool true) ∧ Below w.heap.size w w' := by
  go_enter Yba.func3, Yba.ntmps3
  go_wp2
  go_ret
  exact ⟨rfl, Below.refl _ _⟩

theorem getD_take {α : Type} (l : List α) (n j : Nat) (d : α) (h : j < n) : (l.take n).getD j d = l.getD j d := by
  simp [List.getD, List.getElem?_take, h]

theorem open_keys {H : Type} {enc : TypeId × Value → H} {W : World} {spare : Nat → Bool} {held : Bool} {a : Option Addr} {len cap fuel : Nat} {x : DataW H × List MemPlace}
    (h : DataW.trod enc Yba.prog W 0 spare held fuel 22 [.slice a len cap] = some x) : (len = 0 ∨ ∃ elems spare, x.1 = .slice elems spare ∧ elems.length = len) ∧ ∃ b o K, KeysAt W a len cap b o K := by
  rcases open_strings Yba.underlying22 Yba.underlying9 cells9 h with ⟨hcs, _⟩ | ⟨ad, l, c, ss, hcs, _, hl, hm, hz, hx, hcell, hws⟩
  · simp at hcs
    obtain ⟨rfl, rfl, rfl⟩ := hcs
    exact ⟨.inl rfl, 0, 0, [], ⟨rfl, by omega, fun j hj => by simp at hj, fun _ => ⟨rfl, rfl⟩, fun s hs => by simp at hs⟩⟩
  · simp at hcs
    obtain ⟨rfl, rfl, rfl⟩ := hcs
    have hlz : len ≤ ss.length := by rw [hz]; split <;> omega
    obtain ⟨b, o, spot⟩ := ad
    have hsp : 0 < len → spot = none := fun hp => by simpa [Addr.add] using World.cell?_spot (hcell 0 (by omega))
    refine ⟨.inr ⟨strs (ss.take len), strs (ss.drop len), by rw [hx], by simp [strs]; omega⟩, b, o, ss.take len, ⟨by simp; omega, fun hp => by rw [hsp hp], fun j hj => ?_, (fun h => by cases h), fun s hs => hws s (List.mem_of_mem_take hs)⟩⟩
    have hj' : j < len := by simp at hj; omega
    have := hcell j (by omega)
    rw [hsp (by omega), Addr.add_lit] at this
    rw [getD_take _ _ _ _ hj']
    exact this

theorem open_of {H : Type} {enc : TypeId × Value → H} {W : World} {spare : Nat → Bool} {held : Bool} {a : Option Addr} {len cap fuel : Nat} {x : DataW H × List MemPlace}
    (h : DataW.trod enc Yba.prog W 0 spare held fuel 23 [.slice a len cap] = some x) : (len = 0 ∨ ∃ elems spare, x.1 = .slice elems spare ∧ elems.length = len) ∧ ∃ b o Z, IntsAt W a len cap b o Z := by
  rcases open_ints Yba.underlying23 Yba.underlying3 cells3 h with ⟨hcs, _⟩ | ⟨ad, l, c, ss, hcs, _, hl, hm, hz, hx, hcell, hws⟩
  · simp at hcs
    obtain ⟨rfl, rfl, rfl⟩ := hcs
    exact ⟨.inl rfl, 0, 0, [], ⟨rfl, by omega, by omega, fun j hj => by simp at hj, fun _ => ⟨rfl, rfl⟩⟩⟩
  · simp at hcs
    obtain ⟨rfl, rfl, rfl⟩ := hcs
    have hlz : len ≤ ss.length := by rw [hz]; split <;> omega
    obtain ⟨b, o, spot⟩ := ad
    have hsp : 0 < len → spot = none := fun hp => by simpa [Addr.add] using World.cell?_spot (hcell 0 (by omega))
    refine ⟨.inr ⟨lits .i64 (ss.take len), lits .i64 (ss.drop len), by rw [hx], by simp [lits]; omega⟩, b, o, ss.take len, ⟨by simp; omega, fun hp => by rw [hsp hp], fun hp => ?_, fun j hj => ?_, (fun h => by cases h)⟩⟩
    · have := World.block_lt_of_cell? _ _ (hcell 0 (by omega))
      simpa [Addr.add] using this
    · have hj' : j < len := by simp at hj; omega
      have := hcell j (by omega)
      rw [hsp (by omega), Addr.add_lit] at this
      rw [getD_take _ _ _ _ hj']
      exact this

theorem walk_all (ak ao : Option Addr) (nk ck no co bk ok bo oo : Nat) (K : List ByteArray) (Z : List Int) (p : ByteArray) (w : World) (h1 : (nk : Int) ≤ 140737488351232) (h2 : (no : Int) ≤ 140737488351232)
    (hK : KeysAt w ak nk ck bk ok K) (hZ : IntsAt w ao no co bo oo Z) (hp : p.size ≤ maxLen) :
    Calls Yba.prog 3 #[.slice ak nk ck, .slice ao no co, .string p] w fun e w' => e = .returned (.bool true) ∧ Below w.heap.size w w' := by
  by_cases h : (nk : Int) + (no : Int) ≤ 1048576
  · exact walk ak ao nk ck no co bk ok bo oo K Z p w hK hZ hp h
  · exact walk_big _ _ _ _ _ _ _ _ h1 h2 (by omega)

set_option maxRecDepth 100000 in
theorem lifted (os : Os) (started : os.Started) (H : Type) (enc : TypeId × Value → H) :
    ReturnsInHanded {} Yba.checked os 3 .any (Rows.lawS5731BWholeSpec.pre6 enc Yba.prog Yba.f3 Rows.lawS5731BWholeRow.domain false) (Rows.lawS5731BWholeSpec.post enc Yba.prog Yba.f3 false true false false) := by
  refine returnsInHanded_of_change_sized (C := Yba.checked) own started (by kernel_rfl) Yba.func3
    (ChangeSpec.witness6 (enc := enc) (C := Yba.checked) false ⟨#[], #[.slice none 0 0, .slice none 0 0, .string ByteArray.empty], []⟩ 8 (by kernel_rfl) (by kernel_rfl) (by kernel_rfl) (by kernel_rfl)) ?_
  intro W base args ds gs before hval0 hW hcnd hsz0 hholds
  have hsz : (DataW.weightsEach Yba.prog (Yba.f3.params.toList ++ Rows.lawS5731BWholeSpec.plain.varTypes Yba.prog) (ds ++ gs)).all (· ≤ reachBytes) = true := hsz0
  have hval : ∀ (j : Nat) t v, Yba.f3.params[j]? = some t → args[j]? = some v → Value.okWide Yba.prog W .any base t v := hval0
  have hW' := hW
  obtain ⟨p, q, hA0, hV, rfl, hfz, hnd⟩ := hW
  have hA : DataW.TrodAll enc Yba.prog W 0 (fun _ => true) true Yba.f3.params.toList args.toList ds p := hA0
  rw [Yba.params3] at hA hval hsz
  obtain ⟨v0, vs0, d0, ds0, p0, q0, hargs, rfl, rfl, h0, r0⟩ := trodAll_cons hA
  obtain ⟨v1, vs1, d1, ds1, p1, q1, rfl, rfl, rfl, h1, r1⟩ := trodAll_cons r0
  obtain ⟨v2, vs2, d2, ds2, p2, q2, rfl, rfl, rfl, h2, r2⟩ := trodAll_cons r1
  obtain ⟨rfl, rfl, rfl⟩ := trodAll_nil r2
  obtain rfl : args = #[v0, v1, v2] := by cases args; simp_all
  obtain ⟨rfl, rfl⟩ := trodVars_none hV
  obtain ⟨a0, len0, cap0, rfl⟩ := okWide_slice Yba.underlying22 (hval 0 22 v0 rfl rfl)
  have k0 := h0
  have lt0 : ∀ x ∈ p0, x.block < W.heap.size := by obtain ⟨m, hm⟩ := k0; exact DataW.trod_lt m _ _ _ hm
  obtain ⟨m0', b0, o0, K, w0⟩ : (len0 = 0 ∨ ∃ elems spare, d0 = .slice elems spare ∧ elems.length = len0) ∧ ∃ b o K, KeysAt W a0 len0 cap0 b o K := by
    obtain ⟨fuel, hf⟩ := h0
    exact open_keys hf
  have m0 : (len0 : Int) ≤ 140737488351232 := by
    rcases m0' with h | ⟨el, spr, h, hl⟩
    · omega
    · have := sized_slice hsz (j := 0) (t := 22) (e := 9) rfl (by rw [h]; rfl) Yba.underlying22
      rw [bytes9] at this
      simp only [reachBytes] at this
      omega
  obtain ⟨a1, len1, cap1, rfl⟩ := okWide_slice Yba.underlying23 (hval 1 23 v1 rfl rfl)
  have k1 := h1
  have lt1 : ∀ x ∈ p1, x.block < W.heap.size := by obtain ⟨m, hm⟩ := k1; exact DataW.trod_lt m _ _ _ hm
  obtain ⟨m1', b1, o1, Z, w1⟩ : (len1 = 0 ∨ ∃ elems spare, d1 = .slice elems spare ∧ elems.length = len1) ∧ ∃ b o Z, IntsAt W a1 len1 cap1 b o Z := by
    obtain ⟨fuel, hf⟩ := h1
    exact open_of hf
  have m1 : (len1 : Int) ≤ 140737488351232 := by
    rcases m1' with h | ⟨el, spr, h, hl⟩
    · omega
    · have := sized_slice hsz (j := 1) (t := 23) (e := 3) rfl (by rw [h]; rfl) Yba.underlying23
      rw [bytes3] at this
      simp only [reachBytes] at this
      omega
  obtain ⟨s, rfl, rfl, rfl, w2⟩ := open_string Yba.underlying9 (hval 2 9 v2 rfl rfl) h2
  clear hA0 hval0
  refine (walk_all a0 a1 len0 cap0 len1 cap1 b0 o0 b1 o1 K Z s W m0 m1 w0 w1 w2).mono fun e W' ⟨he, bel⟩ => ?_
  subst he
  exact ⟨_, rfl, _, _, _, [], _, [], hW', trodAll_mk1 (shut_bool Yba.underlying4 _), (trodAll_cons_mk (Below.trod laidOut (by kernel_rfl) (of_decide_eq_true (by kernel_rfl)) k0 bel lt0) (trodAll_cons_mk (Below.trod laidOut (by kernel_rfl) (of_decide_eq_true (by kernel_rfl)) k1 bel lt1) (trodAll_cons_mk (shut_string Yba.underlying9 w2) trodAll_mk0))), rfl, bel.frame _, fun h => by cases h⟩

theorem over : Rows.lawS5731BWholeRow.holds Yba.pinned (OpenSpec.ofChange Rows.lawS5731BWholeSpec) :=
  OpenClaim.holds_of_wide 3 Yba.f3 rfl rfl rfl rfl rfl rfl rfl ⟨rfl, rfl, rfl, rfl, rfl⟩ rfl rfl rfl rfl rfl (by kernel_rfl) Yba.func3 (by kernel_rfl)
    (of_decide_eq_true (by kernel_rfl)) (by unfold Func.isWrapper; first | (rw [if_pos (by decide +kernel)]; kernel_rfl) | (rw [if_neg (by decide +kernel)]; exact ⟨rfl, rfl⟩))
    (fun os started H enc _ => lifted os started H enc)

theorem proved : Rows.LawS5731BWholeSaid := over
end Go.Proofs.Ybulkdnqy.lawS5731BWhole
