import Derived.Test.YbulkdnpiBSteps
import Derived.Deep.RegionHeld3
namespace Go.Proofs.Ybulkdnpi
open Go.ChangeShapes Go.WideShapes Go.ChangeAt Go.RowKit
set_option linter.unusedSimpArgs false
set_option linter.unusedVariables false
attribute [local go_sem] bits_run

set_option maxHeartbeats 1000000 in
theorem walk (ao ai : Option Addr) (len0 cap0 len1 cap1 b0 o0 b1 o1 : Nat) (F : Nat → Nat) (its : Nat → It) (w : World)
    (hd : FloatsAt w ao len0 cap0 b0 o0 F) (ht : ItemsAt w ai len1 b1 o1 its) (hn : len0 ≤ 1048576) (hm : len1 ≤ 1048576) :
    Calls Yba.prog 5 #[.slice ao len0 cap0, .slice ai len1 cap1] w fun e w' => e = .returned (.bool true) ∧ Below w.heap.size w w' := by
  have heql := fun (wx : World) (a : Option Addr) (n c : Nat) => Lib.run_eql_slice_nil (P := Yba.prog) wx 23 28 a n c 0 0 Yba.underlying23
  obtain ⟨i6, hi6, hz60, hz61, hz62⟩ := info_parts Yba.info26
  obtain ⟨i8, hi8, hz80, hz81, hz82⟩ := info_parts Yba.info28
  go_enter Yba.func5, Yba.ntmps5
  go_wp2_with (at_make; refine wpList_make_full _ rfl _ _ 25 rfl w.heap.size 26 i6 .nilIface 1 Yba.underlying25 hi6 hz60 hz61 _ _ _ _ len1 rfl rfl rfl rfl ?c1 ?c2 ?c3 ?_)
  case c1 => rw [hz62]; omega
  case c2 => unfold maxLen; omega
  case c3 => exact Nat.le_refl _
  intro w1 hown hgrow
  have hbel1 : Below w.heap.size w w1 := (Below.refl _ _).grown hgrow (Nat.le_refl _) (by simp)
  have hown1 : w1.ownsRow w.heap.size 26 1 (.slice (some ⟨w.heap.size, 0, none⟩) len1 len1) len1 (objsTo its len1 0) := by
    rw [objsTo_zero]; simpa [toList_madeCells_one, Value.cells] using hown
  clear hown hgrow
  go_wp2
  go_loopw [6, 7] (fun v i wr => ∃ k : Nat, k ≤ len1 ∧ i = .int .i64 k ∧ v = .bool (allTo its k) ∧ wr.ownsRow w.heap.size 26 1 (.slice (some ⟨w.heap.size, 0, none⟩) len1 len1) len1 (objsTo its len1 k) ∧ Below w.heap.size w wr)
    (fun _ i _ => len1 - (intOf i).toNat)
  case atStart => exact ⟨0, Nat.zero_le _, rfl, rfl, hown1, hbel1⟩
  case round =>
    obtain ⟨k, hk, rfl, rfl, hown, hbel⟩ := hrel
    by_cases hlt : k < len1
    · have e1 := ht.addr (by omega)
      have hlb := ht.lt (by omega)
      have q0 := (hbel.cell (p := ⟨b1, o1 + k * 4, none⟩) hlb).trans (ht.c0 k hlt)
      have q1 := (hbel.cell (p := ⟨b1, o1 + k * 4 + 1, none⟩) hlb).trans (ht.c1 k hlt)
      have q2 := (hbel.cell (p := ⟨b1, o1 + k * 4 + 2, none⟩) hlb).trans (ht.c2 k hlt)
      have q3 := (hbel.cell (p := ⟨b1, o1 + k * 4 + 3, none⟩) hlb).trans (ht.c3 k hlt)
      have k0 := ht.k0 k hlt
      have k1 := ht.k1 k hlt
      rw [e1]
      clear e1
      have hcur := hown.cellAt k (by omega)
      have hfr := hown.frozenAt k
      have hszr : w.heap.size < wr.heap.size := (hown.lt _ rfl).2
      have hlb' : b1 < wr.heap.size := by omega
      have hne : b1 ≠ w.heap.size := by omega
      obtain ⟨old, hold, _⟩ := objsTo_any its len1 k k hlt
      rw [hold] at hcur
      clear hold
      have HAll : Hid (allTo its (k + 1) = (allTo its k && (its k).is)) := allTo_succ its k
      have HR := fun v hv p q => (loop1_step (v := v) hv rfl hown hbel p q)
      have HR' : Hid _ := HR
      clear HR
      rcases obj_shape (its k) k0 k1 with ⟨u, x, hx⟩ | hx
      all_goals
        have HC : Hid _ := obj_as (its k) _ hx k0 k1
        have HX : Hid _ := hx
        clear hx
        go_wp2_with (first | (go_at_call 8; refine (HC.out _).mono ?_; rintro e w' ⟨rfl, rfl⟩) | (go_at_call 9; refine (isnum_any _ _ _ _ _ k0 k1).mono ?_; rintro e w' ⟨rfl, rfl⟩))
        · have hno : (!isNum (its k).k) = true := by assumption
          go_roundw
          case rel => exact ⟨k + 1, by omega, by go_num, by rw [HAll.out]; simp [It.is] at hno ⊢; simp [hno], (HR'.out _ HX.out _ _).1, (HR'.out _ HX.out _ _).2⟩
          case measure => simp [intOf]; omega
        · have hno : (!isNum (its k).k) = false := by assumption
          go_roundw
          case rel => exact ⟨k + 1, by omega, by go_num, by rw [HAll.out]; simp [It.is] at hno ⊢; simp [hno], (HR'.out _ HX.out _ _).1, (HR'.out _ HX.out _ _).2⟩
          case measure => simp [intOf]; omega
    · obtain rfl : len1 = k := by omega
      have hNw : w.heap.size < wr.heap.size := (hown.lt _ rfl).2
      clear hown1 hbel1
      cases hao : ao.isNone
      · obtain ⟨a0, rfl⟩ : ∃ a0, ao = some a0 := by cases ao <;> simp at hao ⊢
        go_wp2_with (at_make; refine wpList_make_full _ rfl _ _ 23 rfl (w.heap.size + 1) 28 i8 (.float .f64 0) 1 Yba.underlying23 hi8 hz80 hz81 _ _ _ _ len0 rfl rfl rfl rfl ?d1 ?d2 ?d3 ?_)
        case d1 => rw [hz82]; omega
        case d2 => unfold maxLen; omega
        case d3 => omega
        intro w2 hown2 hgrow2
        obtain ⟨cur, hcur, hcl⟩ := block_of_own hown2
        have hb2 : Below (w.heap.size + 1) wr w2 := (Below.refl _ _).grown hgrow2 (by omega) (by simp)
        have hb2' : Below w.heap.size w w2 := hbel.trans (hb2.mono (by omega))
        have hsrc : 0 < (fl F len0).length → (some (⟨wr.heap.size, 0, none⟩ : Addr)) = some ⟨wr.heap.size, 0, none⟩ ∧ ∃ ad, some a0 = some ad ∧ ∀ j v, (fl F len0)[j]? = some v → w2.cell? (ad.add j) = some v := by
          intro hp
          rw [fl_length] at hp
          refine ⟨rfl, _, hd.addr hp, fun j v hj => ?_⟩
          have hjl : j < len0 := by have := (List.getElem?_eq_some_iff.1 hj).1; rwa [fl_length] at this
          rw [fl_get _ _ _ hjl] at hj
          rw [Addr.add_lit, hb2'.cell (p := ⟨b0, o0 + j, none⟩) (hd.lt hp), hd.c j hjl, hj]
        have HCur : Hid _ := hcur
        have HSrc : Hid _ := hsrc
        clear hown2 hgrow2 hcur hsrc
        go_wp2_with (refine wpList_copy_splice rfl (.tmp 49) (.tmp 50) 23 23 rfl 28 Yba.underlying23 (by rw [hi8]; simp [hz81]) _ _ _ _ _ _ rfl rfl wr.heap.size 0 cur 28 HCur.out (fl F len0) ?e1 HSrc.out ?e2 (fl_one _ _) (w.heap.size + 1) wr hb2 ?e3 ?_)
        case e1 => rw [fl_length]
        case e2 => rw [fl_length]; omega
        case e3 => omega
        intro w4 HB4 hb4
        have hown4 : w4.ownsRow (w.heap.size + 1) 28 1 (.slice (some ⟨wr.heap.size, 0, none⟩) len0 len0) len0 (fl F len0) := by
          have := HB4.out
          rw [splice_whole (by rw [hcl, fl_length])] at this
          exact own_of_block this (fl_length _ _) (by omega) (by unfold maxLen; omega)
        go_wp2_with (go_at_call 10; refine (numbers_law its F len0 len1 w.heap.size _ false wr _ hn hm hown hb4 ?f1 hown4).mono ?_)
        case f1 => simp
        rintro e w3 ⟨hb3, ⟨hall, ar, capr, g, rfl, hres, hisn⟩ | ⟨hall, rfl⟩⟩
        · simp only []
          rw [hall]
          go_wp2
          go_loopw [11] (fun i wx => ∃ k : Nat, k ≤ len0 ∧ i = .int .i64 k ∧ Below w3.heap.size w3 wx) (fun i _ => len0 - (intOf i).toNat)
          case atStart => exact ⟨0, Nat.zero_le _, rfl, Below.refl _ _⟩
          case round =>
            obtain ⟨k, hk, rfl, hbx⟩ := hrel
            by_cases hlt2 : k < len0
            · have ea := hres.addr (by omega)
              have eb := hd.addr (by omega)
              have c1 : wr.cell? ⟨g, k, none⟩ = some (.float .f64 (F k)) := by
                have := (hbx.cell (p := ⟨g, 0 + k, none⟩) (hres.lt (by omega))).trans (hres.c k (by omega))
                rwa [resF_lo hlt2, Nat.zero_add] at this
              have c2 : wr.cell? ⟨b0, o0 + k, none⟩ = some (.float .f64 (F k)) := by
                have h0 := hd.lt (by omega)
                rw [hbx.cell (p := ⟨b0, o0 + k, none⟩) (by show b0 < _; have := hb3.size; omega), hb3.cell (p := ⟨b0, o0 + k, none⟩) (by show b0 < _; omega), hbel.cell (p := ⟨b0, o0 + k, none⟩) h0]
                exact hd.c k hlt2
              rw [ea, eb]
              clear ea eb
              go_wp2
              go_quiet (fail)
              go_wp2
              go_roundw
              case rel => exact ⟨k + 1, by omega, by go_num, below_drewN hbx _⟩
              case measure => simp [intOf]; omega
            · go_wp2
              go_loopw [12] (fun i wy => ∃ k : Nat, k ≤ len1 ∧ i = .int .i64 k ∧ Below w3.heap.size w3 wy) (fun i _ => len1 - (intOf i).toNat)
              case atStart => exact ⟨0, Nat.zero_le _, rfl, hbx⟩
              case round =>
                obtain ⟨j, hj, rfl, hby⟩ := hrel
                have hbw : Below w.heap.size w wr := (hbel.trans (hb3.mono (by omega))).trans (hby.mono (by have := hb3.size; omega))
                by_cases hlt3 : j < len1
                · have ea := hres.addr (by omega)
                  have eb := ht.addr (by omega)
                  have hg3 := hres.lt (by omega)
                  have hb1 := ht.lt (by omega)
                  have hs3 := hby.size
                  have hsw := hbw.size
                  have c1 : wr.cell? ⟨g, len0 + j, none⟩ = some (.float .f64 (its j).num) := by
                    have := (hby.cell (p := ⟨g, 0 + (len0 + j), none⟩) hg3).trans (hres.c (len0 + j) (by omega))
                    rwa [resF_hi, Nat.zero_add] at this
                  have q0 := (hbw.cell (p := ⟨b1, o1 + j * 4, none⟩) hb1).trans (ht.c0 j hlt3)
                  have q1 := (hbw.cell (p := ⟨b1, o1 + j * 4 + 1, none⟩) hb1).trans (ht.c1 j hlt3)
                  have q2 := (hbw.cell (p := ⟨b1, o1 + j * 4 + 2, none⟩) hb1).trans (ht.c2 j hlt3)
                  have q3 := (hbw.cell (p := ⟨b1, o1 + j * 4 + 3, none⟩) hb1).trans (ht.c3 j hlt3)
                  have k0 := ht.k0 j hlt3
                  have k1 := ht.k1 j hlt3
                  have hg4 : g < wr.heap.size := by omega
                  have hb4' : b1 < wr.heap.size := by omega
                  have hx0 : (0 : Int) ≤ (len0 : Int) + (j : Int) := by omega
                  have hx1 : (len0 : Int) + (j : Int) < (len0 : Int) + (len1 : Int) := by omega
                  have hxw := wrap_small len0 j hn (by omega)
                  have hx2 : ((len0 : Int) + (j : Int)).toNat = len0 + j := by omega
                  have hx3 : (j : Int) < (len1 : Int) := by omega
                  rw [ea, eb]
                  clear ea eb
                  go_wp2
                  go_region_held3 (fun w' => w'.cell? ⟨g, len0 + j, none⟩ = some (.float .f64 (its j).num) ∧ w'.cell? ⟨b1, o1 + j * 4, none⟩ = some (.int .u8 (its j).k) ∧ w'.cell? ⟨b1, o1 + j * 4 + 1, none⟩ = some (.int .i64 (its j).i) ∧ w'.cell? ⟨b1, o1 + j * 4 + 2, none⟩ = some (.float .f64 (its j).f) ∧ w'.cell? ⟨b1, o1 + j * 4 + 3, none⟩ = some (.bool (its j).b)) (go_keep) (first | (go_at_call 12; refine (val_as (its j) k0 k1 _).mono ?_; rintro e w' ⟨rfl, rfl⟩))
                  go_wp2
                  go_roundw
                  case rel => exact ⟨j + 1, by omega, by go_num, (hby.alloc hs3 _).drew⟩
                  case measure => simp [intOf]; omega
                · go_wp2
                  go_ret
                  exact ⟨rfl, hbw⟩
        · simp only []
          rw [hall]
          go_wp2
          go_ret
          exact ⟨rfl, hbel.trans (hb3.mono (by omega))⟩
      · obtain rfl : ao = none := by cases ao <;> simp at hao ⊢
        have h00 := (hd.nil rfl).1
        have hown4 : wr.ownsRow (w.heap.size + 1) 28 1 (.slice none 0 0) len0 (fl F len0) := by rw [h00, fl_zero]; exact World.ownsRow_nil _ _ _ _
        have H00 : Hid _ := h00
        clear h00
        go_wp2_with (go_at_call 10; refine (numbers_law its F len0 len1 w.heap.size _ true wr _ hn hm hown (Below.refl _ _) ?f2 hown4).mono ?_)
        case f2 => simp
        rintro e w3 ⟨hb3, ⟨hall, ar, capr, g, rfl, hres, hisn⟩ | ⟨hall, rfl⟩⟩
        · simp only []
          rw [hall]
          go_wp2
          go_loopw [11] (fun i wx => ∃ k : Nat, k ≤ len0 ∧ i = .int .i64 k ∧ Below w3.heap.size w3 wx) (fun i _ => len0 - (intOf i).toNat)
          case atStart => exact ⟨0, Nat.zero_le _, rfl, Below.refl _ _⟩
          case round =>
            obtain ⟨k, hk, rfl, hbx⟩ := hrel
            by_cases hlt2 : k < len0
            · have := H00.out; omega
            · go_wp2
              go_loopw [12] (fun i wy => ∃ k : Nat, k ≤ len1 ∧ i = .int .i64 k ∧ Below w3.heap.size w3 wy) (fun i _ => len1 - (intOf i).toNat)
              case atStart => exact ⟨0, Nat.zero_le _, rfl, hbx⟩
              case round =>
                obtain ⟨j, hj, rfl, hby⟩ := hrel
                have hbw : Below w.heap.size w wr := (hbel.trans (hb3.mono (by omega))).trans (hby.mono (by have := hb3.size; omega))
                by_cases hlt3 : j < len1
                · have ea := hres.addr (by omega)
                  have eb := ht.addr (by omega)
                  have hg3 := hres.lt (by omega)
                  have hb1 := ht.lt (by omega)
                  have hs3 := hby.size
                  have hsw := hbw.size
                  have c1 : wr.cell? ⟨g, len0 + j, none⟩ = some (.float .f64 (its j).num) := by
                    have := (hby.cell (p := ⟨g, 0 + (len0 + j), none⟩) hg3).trans (hres.c (len0 + j) (by omega))
                    rwa [resF_hi, Nat.zero_add] at this
                  have q0 := (hbw.cell (p := ⟨b1, o1 + j * 4, none⟩) hb1).trans (ht.c0 j hlt3)
                  have q1 := (hbw.cell (p := ⟨b1, o1 + j * 4 + 1, none⟩) hb1).trans (ht.c1 j hlt3)
                  have q2 := (hbw.cell (p := ⟨b1, o1 + j * 4 + 2, none⟩) hb1).trans (ht.c2 j hlt3)
                  have q3 := (hbw.cell (p := ⟨b1, o1 + j * 4 + 3, none⟩) hb1).trans (ht.c3 j hlt3)
                  have k0 := ht.k0 j hlt3
                  have k1 := ht.k1 j hlt3
                  have hg4 : g < wr.heap.size := by omega
                  have hb4' : b1 < wr.heap.size := by omega
                  have hx0 : (0 : Int) ≤ (len0 : Int) + (j : Int) := by omega
                  have hx1 : (len0 : Int) + (j : Int) < (len0 : Int) + (len1 : Int) := by omega
                  have hxw := wrap_small len0 j hn (by omega)
                  have hx2 : ((len0 : Int) + (j : Int)).toNat = len0 + j := by omega
                  have hx3 : (j : Int) < (len1 : Int) := by omega
                  rw [ea, eb]
                  clear ea eb
                  go_wp2
                  go_region_held3 (fun w' => w'.cell? ⟨g, len0 + j, none⟩ = some (.float .f64 (its j).num) ∧ w'.cell? ⟨b1, o1 + j * 4, none⟩ = some (.int .u8 (its j).k) ∧ w'.cell? ⟨b1, o1 + j * 4 + 1, none⟩ = some (.int .i64 (its j).i) ∧ w'.cell? ⟨b1, o1 + j * 4 + 2, none⟩ = some (.float .f64 (its j).f) ∧ w'.cell? ⟨b1, o1 + j * 4 + 3, none⟩ = some (.bool (its j).b)) (go_keep) (first | (go_at_call 12; refine (val_as (its j) k0 k1 _).mono ?_; rintro e w' ⟨rfl, rfl⟩))
                  go_wp2
                  go_roundw
                  case rel => exact ⟨j + 1, by omega, by go_num, (hby.alloc hs3 _).drew⟩
                  case measure => simp [intOf]; omega
                · go_wp2
                  go_ret
                  exact ⟨rfl, hbw⟩
        · simp only []
          rw [hall]
          go_wp2
          go_ret
          exact ⟨rfl, hbel.trans (hb3.mono (by omega))⟩
end Go.Proofs.Ybulkdnpi
