import Derived.Test.YbulkdntqSteps
namespace Go.Proofs.Ybulkdntq
open Go.ChangeShapes Go.WideShapes Go.ChangeAt Go.RowKit
set_option linter.unusedSimpArgs false
set_option linter.unusedVariables false

set_option maxRecDepth 20000 in
set_option maxHeartbeats 1000000 in
theorem walk_some (a0 : Addr) (len cap b o : Nat) (S : Nat → Sg) (w : World) (hd : SegsAt w (some a0) len cap b o S) (hn : len ≤ 1048576) :
    Calls Yba.prog 3 #[.slice (some a0) len cap] w fun e w' => e = .returned (.bool true) ∧ Below w.heap.size w w' := by
  have heql := fun (wx : World) (a : Option Addr) (n c : Nat) => Lib.run_eql_slice_nil (P := Yba.prog) wx 23 26 a n c 0 0 Yba.underlying23
  have heqs := fun (wx : World) (a : Option Addr) (n c : Nat) => Lib.run_eql_slice_nil (P := Yba.prog) wx 22 25 a n c 0 0 Yba.underlying22
  have hnI : (len : Int) ≤ 1048576 := by omega
  clear hn
  obtain ⟨i6, hi6, hz60, hz61, hz62⟩ := info_parts Yba.info26
  go_enter Yba.func3, Yba.ntmps3
  go_wp2_with (at_make; refine wpList_make_full _ rfl _ _ 23 rfl w.heap.size 26 i6 (.agg #[.int .i64 0, .bool false, .int .i64 0]) 3 Yba.underlying23 hi6 hz60 hz61 _ _ _ _ len rfl rfl rfl rfl ?c1 ?c2 ?c3 ?_)
  case c1 => rw [hz62]; omega
  case c2 => unfold maxLen; omega
  case c3 => exact Nat.le_refl _
  intro w1 hown hgrow
  have hbel1 : Below w.heap.size w w1 := (Below.refl _ _).grown hgrow (Nat.le_refl _) (by simp)
  have hown1 : w1.ownsRow w.heap.size 26 3 (.slice (some ⟨w.heap.size, 0, none⟩) len len) len (rowTo S len 0) := by
    rw [← made_row]; exact hown
  clear hown hgrow
  go_wp2
  go_loopw [4] (fun i wr => ∃ k : Nat, k ≤ len ∧ i = .int .i64 k ∧ wr.ownsRow w.heap.size 26 3 (.slice (some ⟨w.heap.size, 0, none⟩) len len) len (rowTo S len k) ∧ Below w.heap.size w wr)
    (fun i _ => len - (intOf i).toNat)
  case atStart => exact ⟨0, Nat.zero_le _, rfl, hown1, hbel1⟩
  case round =>
    obtain ⟨k, hk, rfl, hown, hbel⟩ := hrel
    clear hown1 hbel1
    by_cases hlt : k < len
    · have e1 := hd.addr (by omega)
      have hlb := hd.lt (by omega)
      have q0 := (hbel.cell (p := ⟨b, o + k * 3, none⟩) hlb).trans (hd.c0 k hlt)
      have q1 := (hbel.cell (p := ⟨b, o + k * 3 + 1, none⟩) hlb).trans (hd.c1 k hlt)
      have q2 := (hbel.cell (p := ⟨b, o + k * 3 + 2, none⟩) hlb).trans (hd.c2 k hlt)
      have hk0 : (0 : Int) ≤ (k : Int) := by omega
      have hk1 : (k : Int) < (len : Int) := by omega
      obtain ⟨v0, g0⟩ := rowTo_some S len k (k * 3) (by omega)
      obtain ⟨v1, g1⟩ := rowTo_some S len k (k * 3 + 1) (by omega)
      obtain ⟨v2, g2⟩ := rowTo_some S len k (k * 3 + 2) (by omega)
      have r0 := hown.cellAt (k * 3) (by omega)
      have r1 := hown.cellAt (k * 3 + 1) (by omega)
      have r2 := hown.cellAt (k * 3 + 2) (by omega)
      have f0 := hown.frozenAt (k * 3)
      have f1 := hown.frozenAt (k * 3 + 1)
      have f2 := hown.frozenAt (k * 3 + 2)
      rw [g0] at r0
      rw [g1] at r1
      rw [g2] at r2
      clear g0 g1 g2
      have hszr : w.heap.size < wr.heap.size := (hown.lt _ rfl).2
      have hne' : w.heap.size ≠ b := by omega
      rw [e1]
      clear e1
      go_wp2
      go_region_held3 (fun w' => w'.cell? ⟨b, o + k * 3, none⟩ = some (.int .i64 (S k).n) ∧ w'.cell? ⟨b, o + k * 3 + 1, none⟩ = some (.bool (S k).k) ∧ w'.cell? ⟨b, o + k * 3 + 2, none⟩ = some (.int .i64 (S k).t)) (first | go_keep | exact ⟨keep3 q0 hne' _ _ _ _ _ _, keep3 q1 hne' _ _ _ _ _ _, keep3 q2 hne' _ _ _ _ _ _⟩) (fail)
      go_wp2
      have R := loop1_step hlt rfl hown hbel
      go_roundw
      case rel => exact ⟨k + 1, by omega, by go_num, R.1, R.2⟩
      case measure => simp [intOf]; omega
    · obtain rfl : len = k := by omega
      have hszr : w.heap.size < wr.heap.size := (hown.lt _ rfl).2
      rw [rowTo_all] at hown
      obtain ⟨M, hM⟩ : ∃ M, wr.heap.size = M := ⟨_, rfl⟩
      rw [hM] at hszr
      have hrowU := rowAt_own hown
      have hrowS : RowAt wr b o len S := (rowAt_segs hd).later hbel hd.lt
      go_wp2_with (go_at_call 4; refine (unindexed_own M w.heap.size len (row S len) (.int .i32 0) (.int .u32 0) (.int .u32 0) _ (by omega) (row_length _ _) hszr ?p1 (row_one _ _) ?p2 ?p3 ?p4 ?p5 ?p6 ?p7 ?p8).mono ?_)
      case p1 =>
        intro j u hj
        have hjl : j < len * 3 := by have := (List.getElem?_eq_some_iff.1 hj).1; rwa [row_length] at this
        rw [World.cell?_of_block (w := wr) (a := ⟨w.heap.size, j, none⟩) (Below.heap_alloc wr _ _ (by show w.heap.size < _; omega)), hown.cellAt j hjl, hj]
      case p2 => rw [← hM]; simp
      case p3 => rw [← hM]; simp
      case p4 => rw [← hM]; simp
      case p5 => rw [← hM]; simp
      case p6 => rw [← hM]; simp
      case p7 => rw [← hM]; simp
      case p8 => rw [← hM]; simp
      rintro e w3 ⟨v', rfl, hown3, hne3, hbel3, c8⟩
      obtain ⟨g, capg, rfl, hgB, hgl⟩ := own_shape hown3 hne3
      have hm3 : M < w3.heap.size := by have := hbel3.size; simp at this; omega
      have hgB' : M + 1 ≤ g := by simp at hgB; omega
      clear hgB
      have hbJ : Below M wr w3 := ((Below.refl _ _).alloc (by omega) _).trans hbel3
      have hU3 : RowAt w3 w.heap.size 0 len S := hrowU.later hbJ (fun _ => hszr)
      have hS3 : RowAt w3 b o len S := hrowS.later hbJ (fun hp => by have := hd.lt hp; omega)
      have hG3 : RowAt w3 g 0 len S := rowAt_own hown3
      have hbw3 : Below w.heap.size w w3 := hbel.trans (hbJ.mono (by omega))
      clear hrowU hrowS hbJ hbel3 hown hbel
      have hown4 : w3.ownsRow (M + 1) 26 3 (.slice (some ⟨g, 0, none⟩) len capg) len (row S len) := by rw [← hM]; simpa using hown3
      clear hown3
      have HO : Hid _ := hown4
      clear hown4
      simp only []
      go_wp2
      go_loopw [7] (fun i wx => ∃ k : Nat, k ≤ len ∧ i = .int .i64 k ∧ Below w3.heap.size w3 wx) (fun i _ => len - (intOf i).toNat)
      case atStart => exact ⟨0, Nat.zero_le _, rfl, Below.refl _ _⟩
      case round =>
        obtain ⟨k, hk, rfl, hbx⟩ := hrel
        have c8x := (hbx.cell (p := ⟨M, 47, none⟩) hm3).trans c8
        by_cases hlt : k < len
        · have e1 := hd.addr (by omega)
          have hlb := hS3.lt (by omega)
          have u0 := (hbx.cell (p := ⟨w.heap.size, 0 + k * 3, none⟩) (hU3.lt (by omega))).trans (hU3.c0 k hlt)
          have u1 := (hbx.cell (p := ⟨w.heap.size, 0 + k * 3 + 1, none⟩) (hU3.lt (by omega))).trans (hU3.c1 k hlt)
          have u2 := (hbx.cell (p := ⟨w.heap.size, 0 + k * 3 + 2, none⟩) (hU3.lt (by omega))).trans (hU3.c2 k hlt)
          have s0 := (hbx.cell (p := ⟨b, o + k * 3, none⟩) hlb).trans (hS3.c0 k hlt)
          have s1 := (hbx.cell (p := ⟨b, o + k * 3 + 1, none⟩) hlb).trans (hS3.c1 k hlt)
          have s2 := (hbx.cell (p := ⟨b, o + k * 3 + 2, none⟩) hlb).trans (hS3.c2 k hlt)
          have g0 := (hbx.cell (p := ⟨g, 0 + k * 3, none⟩) (hG3.lt (by omega))).trans (hG3.c0 k hlt)
          have g1 := (hbx.cell (p := ⟨g, 0 + k * 3 + 1, none⟩) (hG3.lt (by omega))).trans (hG3.c1 k hlt)
          have g2 := (hbx.cell (p := ⟨g, 0 + k * 3 + 2, none⟩) (hG3.lt (by omega))).trans (hG3.c2 k hlt)
          rw [Nat.zero_add] at u0 u1 u2 g0 g1 g2
          have hk0 : (0 : Int) ≤ (k : Int) := by omega
          have hk1 : (k : Int) < (len : Int) := by omega
          have hsx := hbx.size
          have hUx : w.heap.size < wr.heap.size := by have := hU3.lt (by omega); omega
          have hSx : b < wr.heap.size := by omega
          have hGx : g < wr.heap.size := by omega
          have hMx : M < wr.heap.size := by omega
          rw [e1]
          clear e1
          go_wp2
          go_region_held3 (fun w' => w'.cell? ⟨g, k * 3, none⟩ = some (.int .i64 (S k).n) ∧ w'.cell? ⟨g, k * 3 + 1, none⟩ = some (.bool (S k).k) ∧ w'.cell? ⟨g, k * 3 + 2, none⟩ = some (.int .i64 (S k).t) ∧ w'.cell? ⟨b, o + k * 3, none⟩ = some (.int .i64 (S k).n) ∧ w'.cell? ⟨b, o + k * 3 + 1, none⟩ = some (.bool (S k).k) ∧ w'.cell? ⟨b, o + k * 3 + 2, none⟩ = some (.int .i64 (S k).t) ∧ w'.cell? ⟨w.heap.size, k * 3, none⟩ = some (.int .i64 (S k).n) ∧ w'.cell? ⟨w.heap.size, k * 3 + 1, none⟩ = some (.bool (S k).k) ∧ w'.cell? ⟨w.heap.size, k * 3 + 2, none⟩ = some (.int .i64 (S k).t) ∧ w'.cell? ⟨M, 47, none⟩ = some (.slice (some ⟨w.heap.size, 0, none⟩) len len)) (refine ⟨?_, ?_, ?_, ?_, ?_, ?_, ?_, ?_, ?_, ?_⟩ <;> (repeat (first | assumption | refine cell_drew ?_ | refine cell_alloc ?_ _))) (first | (go_at_call 5; refine (same_eq _ _ _ _).mono ?_; rintro e w' ⟨rfl, rfl⟩))
          go_wp2
          go_roundw
          case rel => exact ⟨k + 1, by omega, by go_num, bel4 hbx hsx _ _ _ _⟩
          case measure => simp [intOf]; omega
        · have hown5 : ∃ xs, wr.ownsRow (M + 1) 26 3 (.slice (some ⟨g, 0, none⟩) len capg) len xs := ⟨_, own_later HO.out hbx⟩
          have hb5 : Below (M + 1) w3 wr := hbx.mono (by omega)
          have hM5 : M + 1 ≤ w3.heap.size := by omega
          clear c8x hbx
          go_wp2
          go_loopw [8] (fun i wy => ∃ k : Nat, k ≤ len ∧ i = .int .i64 k ∧ (∃ xs, wy.ownsRow (M + 1) 26 3 (.slice (some ⟨g, 0, none⟩) len capg) len xs) ∧ Below (M + 1) w3 wy) (fun i _ => len - (intOf i).toNat)
          case atStart => exact ⟨0, Nat.zero_le _, rfl, hown5, hb5⟩
          case round =>
            obtain ⟨k, hk, rfl, ⟨xs, hown⟩, hby⟩ := hrel
            clear hown5 hb5
            by_cases hlt : k < len
            · have e1 := hd.addr (by omega)
              have hlb := hd.lt (by omega)
              have s0 := (hby.cell (p := ⟨b, o + k * 3, none⟩) (by show b < M + 1; omega)).trans (hS3.c0 k hlt)
              have s1 := (hby.cell (p := ⟨b, o + k * 3 + 1, none⟩) (by show b < M + 1; omega)).trans (hS3.c1 k hlt)
              have s2 := (hby.cell (p := ⟨b, o + k * 3 + 2, none⟩) (by show b < M + 1; omega)).trans (hS3.c2 k hlt)
              obtain ⟨v0, t0⟩ := own_some hown (k * 3) (by omega)
              obtain ⟨v1, t1⟩ := own_some hown (k * 3 + 1) (by omega)
              obtain ⟨v2, t2⟩ := own_some hown (k * 3 + 2) (by omega)
              have r0 := hown.cellAt (k * 3) (by omega)
              have r1 := hown.cellAt (k * 3 + 1) (by omega)
              have r2 := hown.cellAt (k * 3 + 2) (by omega)
              have f0 := hown.frozenAt (k * 3)
              have f1 := hown.frozenAt (k * 3 + 1)
              have f2 := hown.frozenAt (k * 3 + 2)
              rw [t0] at r0
              rw [t1] at r1
              rw [t2] at r2
              clear t0 t1 t2
              have hne : g ≠ b := by omega
              have hne' : b ≠ g := by omega
              have HR : Hid _ := fun i j l a1 a2 a3 => loop3_step (i := i) (j := j) (k := l) hown hby hgB' a1 a2 a3
              rw [e1]
              clear e1
              go_wp2
              go_roundw
              case rel => exact ⟨k + 1, by omega, by go_num, (HR.out _ _ _ _ _ _).1, (HR.out _ _ _ _ _ _).2⟩
              case measure => simp [intOf]; omega
            · have hsy := hby.size
              go_wp2
              go_loopw [9] (fun i wz => ∃ k : Nat, k ≤ len ∧ i = .int .i64 k ∧ Below (M + 1) w3 wz) (fun i _ => len - (intOf i).toNat)
              case atStart => exact ⟨0, Nat.zero_le _, rfl, hby⟩
              case round =>
                obtain ⟨k, hk, rfl, hbz⟩ := hrel
                have hsz := hbz.size
                by_cases hlt : k < len
                · have e1 := hd.addr (by omega)
                  have hlb := hd.lt (by omega)
                  have c8x := (hbz.cell (p := ⟨M, 47, none⟩) (by show M < M + 1; omega)).trans c8
                  have u0 := (hbz.cell (p := ⟨w.heap.size, 0 + k * 3, none⟩) (by show w.heap.size < M + 1; omega)).trans (hU3.c0 k hlt)
                  have u1 := (hbz.cell (p := ⟨w.heap.size, 0 + k * 3 + 1, none⟩) (by show w.heap.size < M + 1; omega)).trans (hU3.c1 k hlt)
                  have u2 := (hbz.cell (p := ⟨w.heap.size, 0 + k * 3 + 2, none⟩) (by show w.heap.size < M + 1; omega)).trans (hU3.c2 k hlt)
                  have s0 := (hbz.cell (p := ⟨b, o + k * 3, none⟩) (by show b < M + 1; omega)).trans (hS3.c0 k hlt)
                  have s1 := (hbz.cell (p := ⟨b, o + k * 3 + 1, none⟩) (by show b < M + 1; omega)).trans (hS3.c1 k hlt)
                  have s2 := (hbz.cell (p := ⟨b, o + k * 3 + 2, none⟩) (by show b < M + 1; omega)).trans (hS3.c2 k hlt)
                  rw [Nat.zero_add] at u0 u1 u2
                  have hk0 : (0 : Int) ≤ (k : Int) := by omega
                  have hk1 : (k : Int) < (len : Int) := by omega
                  have hUx : w.heap.size < wr.heap.size := by omega
                  have hSx : b < wr.heap.size := by omega
                  have hMx : M < wr.heap.size := by omega
                  rw [e1]
                  clear e1
                  go_wp2
                  go_region_held3 (fun w' => w'.cell? ⟨b, o + k * 3, none⟩ = some (.int .i64 (S k).n) ∧ w'.cell? ⟨b, o + k * 3 + 1, none⟩ = some (.bool (S k).k) ∧ w'.cell? ⟨b, o + k * 3 + 2, none⟩ = some (.int .i64 (S k).t) ∧ w'.cell? ⟨w.heap.size, k * 3, none⟩ = some (.int .i64 (S k).n) ∧ w'.cell? ⟨w.heap.size, k * 3 + 1, none⟩ = some (.bool (S k).k) ∧ w'.cell? ⟨w.heap.size, k * 3 + 2, none⟩ = some (.int .i64 (S k).t) ∧ w'.cell? ⟨M, 47, none⟩ = some (.slice (some ⟨w.heap.size, 0, none⟩) len len)) (refine ⟨?_, ?_, ?_, ?_, ?_, ?_, ?_⟩ <;> (repeat (first | assumption | refine cell_drew ?_ | refine cell_alloc ?_ _))) (first | (go_at_call 5; refine (same_eq _ _ _ _).mono ?_; rintro e w' ⟨rfl, rfl⟩))
                  go_wp2
                  go_roundw
                  case rel => exact ⟨k + 1, by omega, by go_num, bel2 hbz (by omega) _ _⟩
                  case measure => simp [intOf]; omega
                · go_wp2
                  go_ret
                  exact ⟨rfl, hbw3.trans (hbz.mono (by omega))⟩
end Go.Proofs.Ybulkdntq
