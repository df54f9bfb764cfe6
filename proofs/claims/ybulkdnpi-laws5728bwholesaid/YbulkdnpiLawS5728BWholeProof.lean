import Derived.Test.YbulkdnpiBLaw
import Derived.ChangeOld
import Derived.Lib.SmallJoins
namespace Go.Proofs.Ybulkdnpi.lawS5728BWhole
open Go.ChangeShapes Go.WideShapes Go.ChangeAt Go.RowKit
open Go.Deep (open_slice open_slice1 choose_lt)
open Go.Joins
set_option linter.unusedVariables false
set_option linter.unusedSimpArgs false

theorem own : ownKnob Yba.prog.godebug = none := by kernel_rfl
theorem laidOut : laidOutB Yba.prog = true := by kernel_rfl
theorem cells28 : Yba.prog.cellsOf 28 = 1 := by kernel_rfl
theorem cells5 : Yba.prog.cellsOf 5 = 1 := by kernel_rfl
theorem cells2 : Yba.prog.cellsOf 2 = 1 := by kernel_rfl
theorem cells4 : Yba.prog.cellsOf 4 = 1 := by kernel_rfl
theorem cells30 : Yba.prog.cellsOf 30 = 4 := by kernel_rfl

/-- Too long: the law answers at once. -/
theorem walk_big (ao ai : Option Addr) (len0 cap0 len1 cap1 : Nat) (w : World) (h : 1048576 < len0 ∨ 1048576 < len1) :
    Calls Yba.prog 5 #[.slice ao len0 cap0, .slice ai len1 cap1] w fun e w' => e = .returned (.bool true) ∧ Below w.heap.size w w' := by
  by_cases h0 : 1048576 < len0
  · go_enter Yba.func5, Yba.ntmps5
    go_wp2
    go_ret
    exact ⟨rfl, Below.refl _ _⟩
  · have h1 : 1048576 < len1 := by omega
    clear h
    go_enter Yba.func5, Yba.ntmps5
    go_wp2
    go_ret
    exact ⟨rfl, Below.refl _ _⟩

section
variable {H : Type} {enc : TypeId × Value → H} {P : Program} {w : World} {base : Nat} {spare : Nat → Bool} {held : Bool}

theorem trod_float {fuel : Nat} {t : TypeId} {cs : List Value} {x : DataW H × List MemPlace} {k : FloatKind} (ht : P.underlying t = some (.float k)) (h : DataW.trod enc P w base spare held fuel t cs = some x) :
    ∃ b, cs = [.float k b] := by
  cases fuel with
  | zero => simp [DataW.trod] at h
  | succ n =>
    unfold DataW.trod at h
    rw [ht] at h
    split at h <;> simp_all
end

theorem open_floats {H : Type} {enc : TypeId × Value → H} {W : World} {spare : Nat → Bool} {held : Bool} {a : Option Addr} {len cap fuel : Nat} {x : DataW H × List MemPlace} 
    (h : DataW.trod enc Yba.prog W 0 spare held fuel 23 [.slice a len cap] = some x) : ∃ b o F, FloatsAt W a len cap b o F := by
  rcases open_slice1 Yba.underlying23 cells28 h with ⟨hcs, _⟩ | ⟨ad, l, c, m, n, V, D, Pl, hcs, _, hl, hm, hmm, rfl, hx⟩
  · simp at hcs
    obtain ⟨rfl, rfl, rfl⟩ := hcs
    exact ⟨0, 0, fun _ => 0, ⟨by omega, by omega, fun _ => ⟨rfl, rfl⟩, fun j hj => by omega⟩⟩
  · simp at hcs
    obtain ⟨rfl, rfl, rfl⟩ := hcs
    have hlm : len ≤ m := by rw [hmm]; split <;> omega
    obtain ⟨F, hF⟩ := choose_lt (α := Nat) (n := len) (p := fun i f => W.cell? (ad.add i) = some (.float .f64 f)) (fun i hi => by
      obtain ⟨h1, h2⟩ := hx i (by omega)
      obtain ⟨f, hf⟩ := trod_float Yba.underlying28 h2
      simp at hf
      exact ⟨f, by rw [h1, hf]⟩)
    obtain ⟨b, o, spot⟩ := ad
    have hsp : 0 < len → spot = none := fun hp => by simpa [Addr.add] using World.cell?_spot (hF 0 hp)
    refine ⟨b, o, F, ⟨fun hp => by rw [hsp hp], fun hp => ?_, (fun h => by cases h), fun j hj => ?_⟩⟩
    · have := World.block_lt_of_cell? _ _ (hF 0 hp)
      simpa [Addr.add] using this
    · have := hF j hj
      rw [hsp (by omega), Addr.add_lit] at this
      exact this

theorem open_items {H : Type} {enc : TypeId × Value → H} {W : World} {spare : Nat → Bool} {held : Bool} {a : Option Addr} {len cap fuel : Nat} {x : DataW H × List MemPlace}
    (h : DataW.trod enc Yba.prog W 0 spare held fuel 24 [.slice a len cap] = some x) : ∃ b o its, ItemsAt W a len b o its := by
  rcases open_slice Yba.underlying24 h with ⟨hcs, _⟩ | ⟨ad, l, c, m, n, D, Pl, hcs, _, hl, hm, hmm, rfl, hx⟩
  · simp at hcs
    obtain ⟨rfl, rfl, rfl⟩ := hcs
    refine ⟨0, 0, fun _ => ⟨0, 0, 0, false⟩, ⟨?_, ?_, ?_, ?_, ?_, ?_, ?_, ?_⟩⟩ <;> intros <;> omega
  · simp at hcs
    obtain ⟨rfl, rfl, rfl⟩ := hcs
    have hlm : len ≤ m := by rw [hmm]; split <;> omega
    rw [cells30] at hx
    have : Inhabited It := ⟨⟨0, 0, 0, false⟩⟩
    obtain ⟨its, hI⟩ := choose_lt (α := It) (n := len) (p := fun i t => W.cell? (ad.add (i * 4)) = some (.int .u8 t.k) ∧ W.cell? (ad.add (i * 4 + 1)) = some (.int .i64 t.i) ∧ W.cell? (ad.add (i * 4 + 2)) = some (.float .f64 t.f) ∧ W.cell? (ad.add (i * 4 + 3)) = some (.bool t.b) ∧ 0 ≤ t.k ∧ t.k ≤ 255) (fun i hi => by
      obtain ⟨cs', h1, h2⟩ := hx i (by omega)
      obtain ⟨_, hlen, hcell⟩ := World.cells?_some h1
      obtain ⟨y0, y1, y2, y3, n', _, _, t0, t1, t2, t3⟩ := trod_struct4 Yba.underlying30 h2
      match cs', hlen with
      | [c0, c1, c2, c3], _ =>
        obtain ⟨k, e0, _, wk⟩ := DataW.trod_int Yba.underlying5 t0
        obtain ⟨n1, e1, _, _⟩ := DataW.trod_int Yba.underlying2 t1
        obtain ⟨f, e2⟩ := trod_float Yba.underlying28 t2
        obtain ⟨b, e3, _⟩ := DataW.trod_bool Yba.underlying4 t3
        simp [cells28, cells5, cells2, cells4] at e0 e1 e2 e3
        subst e0 e1 e2 e3
        have g0 := hcell 0 (by omega)
        have g1 := hcell 1 (by omega)
        have g2 := hcell 2 (by omega)
        have g3 := hcell 3 (by omega)
        rw [Go.Deep.add_add] at g0 g1 g2 g3
        have hb := bounds_u8 wk
        exact ⟨⟨k, n1, f, b⟩, by simpa using g0, by simpa using g1, by simpa using g2, by simpa using g3, hb.1, hb.2⟩)
    obtain ⟨b, o, spot⟩ := ad
    have hsp : 0 < len → spot = none := fun hp => by simpa [Addr.add] using World.cell?_spot (hI 0 hp).1
    refine ⟨b, o, its, ⟨fun hp => by rw [hsp hp], fun hp => ?_, fun j hj => ?_, fun j hj => ?_, fun j hj => ?_, fun j hj => ?_, fun j hj => (hI j hj).2.2.2.2.1, fun j hj => (hI j hj).2.2.2.2.2⟩⟩
    · have := World.block_lt_of_cell? _ _ (hI 0 hp).1
      simpa [Addr.add] using this
    · have := (hI j hj).1
      rw [hsp (by omega), Addr.add_lit] at this
      exact this
    · have := (hI j hj).2.1
      rw [hsp (by omega), Addr.add_lit] at this
      exact this
    · have := (hI j hj).2.2.1
      rw [hsp (by omega), Addr.add_lit] at this
      exact this
    · have := (hI j hj).2.2.2.1
      rw [hsp (by omega), Addr.add_lit] at this
      exact this

theorem walk_all (ao ai : Option Addr) (len0 cap0 len1 cap1 b0 o0 b1 o1 : Nat) (F : Nat → Nat) (its : Nat → It) (w : World)
    (hd : FloatsAt w ao len0 cap0 b0 o0 F) (ht : ItemsAt w ai len1 b1 o1 its) :
    Calls Yba.prog 5 #[.slice ao len0 cap0, .slice ai len1 cap1] w fun e w' => e = .returned (.bool true) ∧ Below w.heap.size w w' := by
  by_cases h : 1048576 < len0 ∨ 1048576 < len1
  · exact walk_big _ _ _ _ _ _ _ h
  · exact walk _ _ _ _ _ _ _ _ _ _ _ _ w hd ht (by omega) (by omega)

set_option maxRecDepth 100000 in
theorem lifted (os : Os) (started : os.Started) (H : Type) (enc : TypeId × Value → H) :
    ReturnsInHanded {} Yba.checked os 5 .any (Rows.lawS5728BWholeSpec.pre6 enc Yba.prog Yba.f5 Rows.lawS5728BWholeRow.domain false) (Rows.lawS5728BWholeSpec.post enc Yba.prog Yba.f5 false true false false) := by
  refine returnsInHanded_of_change (C := Yba.checked) own started (by kernel_rfl) Yba.func5
    (ChangeSpec.witness6 (enc := enc) (C := Yba.checked) false ⟨#[], #[.slice none 0 0, .slice none 0 0], []⟩ 8 (by kernel_rfl) (by kernel_rfl) (by kernel_rfl) (by kernel_rfl)) ?_
  intro W base args ds gs before hval0 hW hcnd _
  have hval : ∀ (j : Nat) t v, Yba.f5.params[j]? = some t → args[j]? = some v → Value.okWide Yba.prog W .any base t v := hval0
  have hW' := hW
  obtain ⟨p, q, hA0, hV, rfl, hfz, hnd⟩ := hW
  have hA : DataW.TrodAll enc Yba.prog W 0 (fun _ => true) true Yba.f5.params.toList args.toList ds p := hA0
  rw [Yba.params5] at hA hval
  obtain ⟨v0, vs0, d0, ds0, p0, q0, hargs, rfl, rfl, h0, r0⟩ := trodAll_cons hA
  obtain ⟨v1, vs1, d1, ds1, p1, q1, rfl, rfl, rfl, h1, r1⟩ := trodAll_cons r0
  obtain ⟨rfl, rfl, rfl⟩ := trodAll_nil r1
  obtain rfl : args = #[v0, v1] := by cases args; simp_all
  obtain ⟨rfl, rfl⟩ := trodVars_none hV
  obtain ⟨a0, len0, cap0, rfl⟩ := okWide_slice Yba.underlying23 (hval 0 23 v0 rfl rfl)
  have k0 := h0
  have lt0 : ∀ x ∈ p0, x.block < W.heap.size := by obtain ⟨m, hm⟩ := k0; exact DataW.trod_lt m _ _ _ hm
  obtain ⟨b0, o0, F, w0⟩ : ∃ b o F, FloatsAt W a0 len0 cap0 b o F := by
    obtain ⟨fuel, hf⟩ := h0
    exact open_floats hf
  obtain ⟨a1, len1, cap1, rfl⟩ := okWide_slice Yba.underlying24 (hval 1 24 v1 rfl rfl)
  have k1 := h1
  have lt1 : ∀ x ∈ p1, x.block < W.heap.size := by obtain ⟨m, hm⟩ := k1; exact DataW.trod_lt m _ _ _ hm
  obtain ⟨b1, o1, its, w1⟩ : ∃ b o its, ItemsAt W a1 len1 b o its := by
    obtain ⟨fuel, hf⟩ := h1
    exact open_items hf
  clear hA0 hval0
  refine (walk_all a0 a1 len0 cap0 len1 cap1 b0 o0 b1 o1 F its W w0 w1).mono fun e W' ⟨he, bel⟩ => ?_
  subst he
  exact ⟨_, rfl, _, _, _, [], _, [], hW', trodAll_mk1 (shut_bool Yba.underlying4 _), (trodAll_cons_mk (Below.trod laidOut (by kernel_rfl) (of_decide_eq_true (by kernel_rfl)) k0 bel lt0) (trodAll_cons_mk (Below.trod laidOut (by kernel_rfl) (of_decide_eq_true (by kernel_rfl)) k1 bel lt1) trodAll_mk0)), rfl, bel.frame _, fun h => by cases h⟩

theorem over : Rows.lawS5728BWholeRow.holds Yba.pinned (OpenSpec.ofChange Rows.lawS5728BWholeSpec) :=
  OpenClaim.holds_of_wide 5 Yba.f5 rfl rfl rfl rfl rfl rfl rfl ⟨rfl, rfl, rfl, rfl, rfl⟩ rfl rfl rfl rfl rfl (by kernel_rfl) Yba.func5 (by kernel_rfl)
    (of_decide_eq_true (by kernel_rfl)) (by unfold Func.isWrapper; first | (rw [if_pos (by decide +kernel)]; kernel_rfl) | (rw [if_neg (by decide +kernel)]; exact ⟨rfl, rfl⟩))
    (fun os started H enc _ => lifted os started H enc)

theorem proved : Rows.LawS5728BWholeSaid := over
end Go.Proofs.Ybulkdnpi.lawS5728BWhole
