import Derived.Test.YbulkdntqLaw
import Derived.Test.YbulkdntqLawNil
import Derived.ChangeOld
import Derived.Deep.Strs
namespace Go.Proofs.Ybulkdntq.lawS5736BWhole
open Go.ChangeShapes Go.WideShapes Go.ChangeAt Go.RowKit
open Go.Deep (open_slice choose_lt trod_struct3)
set_option linter.unusedVariables false
set_option linter.unusedSimpArgs false

theorem own : ownKnob Yba.prog.godebug = none := by kernel_rfl
theorem laidOut : laidOutB Yba.prog = true := by kernel_rfl
theorem cells25 : Yba.prog.cellsOf 25 = 3 := by kernel_rfl
theorem cells3 : Yba.prog.cellsOf 3 = 1 := by kernel_rfl
theorem cells4 : Yba.prog.cellsOf 4 = 1 := by kernel_rfl
theorem cells2 : Yba.prog.cellsOf 2 = 1 := by kernel_rfl

set_option maxRecDepth 20000 in
/-- Too long: the law answers at once. -/
theorem walk_big (ao : Option Addr) (len cap : Nat) (w : World) (h : (1048576 : Int) < (len : Int)) :
    Calls Yba.prog 3 #[.slice ao len cap] w fun e w' => e = .returned (.bool true) ∧ Below w.heap.size w w' := by
  go_enter Yba.func3, Yba.ntmps3
  go_wp2
  go_ret
  exact ⟨rfl, Below.refl _ _⟩

set_option maxRecDepth 20000 in
theorem open_segs {H : Type} {enc : TypeId × Value → H} {W : World} {spare : Nat → Bool} {held : Bool} {a : Option Addr} {len cap fuel : Nat} {x : DataW H × List MemPlace}
    (h : DataW.trod enc Yba.prog W 0 spare held fuel 22 [.slice a len cap] = some x) : ∃ b o S, SegsAt W a len cap b o S := by
  rcases open_slice Yba.underlying22 h with ⟨hcs, _⟩ | ⟨ad, l, c, m, n, D, Pl, hcs, _, hl, hm, hmm, rfl, hx⟩
  · simp at hcs
    obtain ⟨rfl, rfl, rfl⟩ := hcs
    exact ⟨0, 0, fun _ => ⟨0, false, 0⟩, ⟨by omega, by omega, fun _ => ⟨rfl, rfl⟩, fun j hj => by omega, fun j hj => by omega, fun j hj => by omega⟩⟩
  · simp at hcs
    obtain ⟨rfl, rfl, rfl⟩ := hcs
    have hlm : len ≤ m := by rw [hmm]; split <;> omega
    rw [cells25] at hx
    have : Inhabited Sg := ⟨⟨0, false, 0⟩⟩
    obtain ⟨S, hI⟩ := choose_lt (α := Sg) (n := len) (p := fun i t => W.cell? (ad.add (i * 3)) = some (.int .i64 t.n) ∧ W.cell? (ad.add (i * 3 + 1)) = some (.bool t.k) ∧ W.cell? (ad.add (i * 3 + 2)) = some (.int .i64 t.t)) (fun i hi => by
      obtain ⟨cs', h1, h2⟩ := hx i (by omega)
      obtain ⟨_, hlen, hcell⟩ := World.cells?_some h1
      obtain ⟨y0, y1, y2, n', _, _, t0, t1, t2⟩ := trod_struct3 Yba.underlying25 h2
      match cs', hlen with
      | [c0, c1, c2], _ =>
        obtain ⟨n0, e0, _, _⟩ := DataW.trod_int Yba.underlying3 t0
        obtain ⟨b, e1, _⟩ := DataW.trod_bool Yba.underlying4 t1
        obtain ⟨n2, e2, _, _⟩ := DataW.trod_int Yba.underlying2 t2
        simp [cells3, cells2, cells4] at e0 e1 e2
        subst e0 e1 e2
        have g0 := hcell 0 (by omega)
        have g1 := hcell 1 (by omega)
        have g2 := hcell 2 (by omega)
        rw [Go.Deep.add_add] at g0 g1 g2
        exact ⟨⟨n0, b, n2⟩, by simpa using g0, by simpa using g1, by simpa using g2⟩)
    obtain ⟨b, o, spot⟩ := ad
    have hsp : 0 < len → spot = none := fun hp => by simpa [Addr.add] using World.cell?_spot (hI 0 hp).1
    refine ⟨b, o, S, ⟨fun hp => by rw [hsp hp], fun hp => ?_, (fun h => by cases h), fun j hj => ?_, fun j hj => ?_, fun j hj => ?_⟩⟩
    · have := World.block_lt_of_cell? _ _ (hI 0 hp).1
      simpa [Addr.add] using this
    · have := (hI j hj).1
      rw [hsp (by omega), Addr.add_lit] at this
      exact this
    · have := (hI j hj).2.1
      rw [hsp (by omega), Addr.add_lit] at this
      exact this
    · have := (hI j hj).2.2
      rw [hsp (by omega), Addr.add_lit] at this
      exact this

theorem walk_all (ao : Option Addr) (len cap b o : Nat) (S : Nat → Sg) (w : World) (hd : SegsAt w ao len cap b o S) :
    Calls Yba.prog 3 #[.slice ao len cap] w fun e w' => e = .returned (.bool true) ∧ Below w.heap.size w w' := by
  by_cases h : 1048576 < len
  · exact walk_big _ _ _ _ (by omega)
  · cases ao with
    | none =>
      obtain ⟨rfl, rfl⟩ := hd.nil rfl
      exact walk_nil w
    | some a => exact walk_some a len cap b o S w hd (by omega)

set_option maxRecDepth 100000 in
theorem lifted (os : Os) (started : os.Started) (H : Type) (enc : TypeId × Value → H) :
    ReturnsInHanded {} Yba.checked os 3 .any (Rows.lawS5736BWholeSpec.pre6 enc Yba.prog Yba.f3 Rows.lawS5736BWholeRow.domain false) (Rows.lawS5736BWholeSpec.post enc Yba.prog Yba.f3 false true false false) := by
  refine returnsInHanded_of_change (C := Yba.checked) own started (by kernel_rfl) Yba.func3
    (ChangeSpec.witness6 (enc := enc) (C := Yba.checked) false ⟨#[], #[.slice none 0 0], []⟩ 8 (by kernel_rfl) (by kernel_rfl) (by kernel_rfl) (by kernel_rfl)) ?_
  intro W base args ds gs before hval0 hW hcnd _
  have hval : ∀ (j : Nat) t v, Yba.f3.params[j]? = some t → args[j]? = some v → Value.okWide Yba.prog W .any base t v := hval0
  have hW' := hW
  obtain ⟨p, q, hA0, hV, rfl, hfz, hnd⟩ := hW
  have hA : DataW.TrodAll enc Yba.prog W 0 (fun _ => true) true Yba.f3.params.toList args.toList ds p := hA0
  rw [Yba.params3] at hA hval
  obtain ⟨v0, vs0, d0, ds0, p0, q0, hargs, rfl, rfl, h0, r0⟩ := trodAll_cons hA
  obtain ⟨rfl, rfl, rfl⟩ := trodAll_nil r0
  obtain rfl : args = #[v0] := by cases args; simp_all
  obtain ⟨rfl, rfl⟩ := trodVars_none hV
  obtain ⟨a0, len0, cap0, rfl⟩ := okWide_slice Yba.underlying22 (hval 0 22 v0 rfl rfl)
  have k0 := h0
  have lt0 : ∀ x ∈ p0, x.block < W.heap.size := by obtain ⟨m, hm⟩ := k0; exact DataW.trod_lt m _ _ _ hm
  obtain ⟨b0, o0, S, w0⟩ : ∃ b o S, SegsAt W a0 len0 cap0 b o S := by
    obtain ⟨fuel, hf⟩ := h0
    exact open_segs hf
  clear hA0 hval0
  refine (walk_all a0 len0 cap0 b0 o0 S W w0).mono fun e W' ⟨he, bel⟩ => ?_
  subst he
  exact ⟨_, rfl, _, _, _, [], _, [], hW', trodAll_mk1 (shut_bool Yba.underlying4 _), (trodAll_cons_mk (Below.trod laidOut (by kernel_rfl) (of_decide_eq_true (by kernel_rfl)) k0 bel lt0) trodAll_mk0), rfl, bel.frame _, fun h => by cases h⟩

theorem over : Rows.lawS5736BWholeRow.holds Yba.pinned (OpenSpec.ofChange Rows.lawS5736BWholeSpec) :=
  OpenClaim.holds_of_wide 3 Yba.f3 rfl rfl rfl rfl rfl rfl rfl ⟨rfl, rfl, rfl, rfl, rfl⟩ rfl rfl rfl rfl rfl (by kernel_rfl) Yba.func3 (by kernel_rfl)
    (of_decide_eq_true (by kernel_rfl)) (by unfold Func.isWrapper; first | (rw [if_pos (by decide +kernel)]; kernel_rfl) | (rw [if_neg (by decide +kernel)]; exact ⟨rfl, rfl⟩))
    (fun os started H enc _ => lifted os started H enc)

theorem proved : Rows.LawS5736BWholeSaid := over
end Go.Proofs.Ybulkdntq.lawS5736BWhole
