import Derived.Test.YbulkdnrmEntry
import Derived.Laws.Pointers
import Derived.Lib.EndianMore
namespace Go.Proofs.Ybulkdnrm
open Go.ChangeShapes Go.WideShapes Go.ChangeAt Go.RowKit
open Go.Lib (uvarint byteCells strCells)
set_option linter.unusedSimpArgs false
set_option linter.unusedVariables false

/-- a builder of the call's own that has been grown or written -/
abbrev Bld (B b : Nat) (l : List Value) (w : World) : Prop := Lib.BuilderAt 35 5 B b (.pointer (some ⟨b, 0, none⟩)) l w

theorem copyCheck_self (b : Nat) (w : World) (h : w.cell? ⟨b, 0, none⟩ = some (.pointer (some ⟨b, 0, none⟩))) :
    Calls Yba.prog 14 #[.pointer (some ⟨b, 0, none⟩)] w fun e w' => e = .returned (.tuple #[]) ∧ w' = w := by
  obtain ⟨j, hj⟩ : ∃ j, Yba.prog.info? 35 = some j := by
    cases h : Yba.prog.info? 35 with
    | some j => exact ⟨j, rfl⟩
    | none => have : (Yba.prog.info? 35).isSome = true := by kernel_rfl
              rw [h] at this; cases this
  have hne := fun wx => Lib.run_neq_ptr_same (P := Yba.prog) wx (tp := 33) (te := 35) (j := j) ⟨b, 0, none⟩ Yba.underlying33 hj
  have hp : Yba.prog.underlying 33 = some (.pointer (Yba.prog.pointee 33)) := by kernel_rfl
  have heq := fun wx => run_eql_pointer_nil (P := Yba.prog) wx 33 (some ⟨b, 0, none⟩) hp
  go_enter Yba.func14, Yba.ntmps14
  go_wp2
  go_end0
  exact ⟨rfl, rfl⟩

set_option maxHeartbeats 800000 in
theorem write_any (B b : Nat) (l news : List Value) (ad : Addr) (m c : Nat) (w : World) (h : Bld B b l w) (hl : news.length = m) (hnews : ∀ j u, news[j]? = some u → w.cell? (ad.add j) = some u) (h1 : ∀ u ∈ news, u.oneCell' = true)
    (hlen : (l.length : Int) + (m : Int) ≤ 1099511627776) (hBw : B ≤ w.heap.size) :
    Calls Yba.prog 16 #[.pointer (some ⟨b, 0, none⟩), .slice (some ad) m c] w fun e w' => e = .returned (.tuple #[.int .i64 m, .nilIface]) ∧ Bld B b (l ++ news) w' ∧ Below B w w' := by
  obtain ⟨i0, hi, hz0, hz1, hz2⟩ := info_parts Yba.info5
  obtain ⟨hB, v, hbk, hown, hne⟩ := h
  have c0 : w.cell? ⟨b, 0, none⟩ = some (.pointer (some ⟨b, 0, none⟩)) := by rw [Lib.cell_of_heap hbk]; rfl
  have c1 : w.cell? ⟨b, 1, none⟩ = some v := by rw [Lib.cell_of_heap hbk]; rfl
  go_enter Yba.func16, Yba.ntmps16
  have hni : (l.length : Int) ≤ 1099511627776 := by omega
  go_wp2_with (first | (go_at_call 14; refine (copyCheck_self b w c0).mono ?_; rintro e wc ⟨rfl, hwc⟩; rw [hwc]; clear hwc) | (at_builtin; refine wpList_append_own _ rfl _ _ 29 rfl B 5 i0 (.int .u8 0) 1 1 Yba.underlying29 hi hz0 hz1 hz2 rfl (by decide) _ _ _ rfl hown ad m c news rfl (by omega) hnews h1 ?c3 ?c4 ?c5 ?_))
  case c3 => unfold maxLen; omega
  case c4 => omega
  case c5 => exact hBw
  intro v' w2 hown' hgrow _
  have hlt : b < w.heap.size := lt_of_block hbk
  have hb2 : w2.heap[b]? = some (.cells #[.pointer (some ⟨b, 0, none⟩), v] 35 (0, 0)) := by
    rw [hgrow.block b hlt (fun e => hne e.symm)]
    exact hbk
  have d0 : w2.cell? ⟨b, 0, none⟩ = some (.pointer (some ⟨b, 0, none⟩)) := by rw [Lib.cell_of_heap hb2]; rfl
  have d1 : w2.cell? ⟨b, 1, none⟩ = some v := by rw [Lib.cell_of_heap hb2]; rfl
  have f1 : w2.frozen? ⟨b, 1, none⟩ = false := Lib.frozen_of_heap hb2 1
  have hbel : Below B w w2 := (Below.refl _ _).grown hgrow hBw (fun k hk => (hown.lt k hk).1)
  obtain ⟨ao, n', cap, rfl⟩ : ∃ ao n' cap, v' = .slice ao n' cap := by
    rcases hown'.2 with ⟨hv, _⟩ | ⟨g, cap, cur, hv, _⟩
    · exact ⟨_, _, _, hv⟩
    · exact ⟨_, _, _, hv⟩
  have HO : Hid _ := hown'
  clear hown' hgrow hown hbk c0 c1
  go_wp2
  go_ret2
  refine ⟨rfl, ?_, ?_⟩
  · exact Lib.BuilderAt.put (T := 35) (e := 5) hB hb2 (bs' := l ++ news) (by rw [List.length_append, hl]; exact HO.out) (by decide)
  · exact hbel.setCell (p := ⟨b, 1, none⟩) hB _

set_option maxHeartbeats 800000 in
theorem writeString_any (B b : Nat) (l : List Value) (s : ByteArray) (w : World) (h : Bld B b l w) (hlen : (l.length : Int) + (s.size : Int) ≤ 1099511627776) (hBw : B ≤ w.heap.size) :
    Calls Yba.prog 10 #[.pointer (some ⟨b, 0, none⟩), .string s] w fun e w' => e = .returned (.tuple #[.int .i64 s.size, .nilIface]) ∧ Bld B b (l ++ strCells s) w' ∧ Below B w w' := by
  obtain ⟨i0, hi, hz0, hz1, hz2⟩ := info_parts Yba.info5
  obtain ⟨hB, v, hbk, hown, hne⟩ := h
  have c0 : w.cell? ⟨b, 0, none⟩ = some (.pointer (some ⟨b, 0, none⟩)) := by rw [Lib.cell_of_heap hbk]; rfl
  have c1 : w.cell? ⟨b, 1, none⟩ = some v := by rw [Lib.cell_of_heap hbk]; rfl
  go_enter Yba.func10, Yba.ntmps10
  go_wp2_with (first | (go_at_call 14; refine (copyCheck_self b w c0).mono ?_; rintro e wc ⟨rfl, hwc⟩; rw [hwc]; clear hwc) | (at_builtin; refine Lib.wpList_append_own_string _ rfl _ _ 29 9 rfl B 5 i0 Yba.underlying29 Yba.underlying9 hi hz0 hz1 hz2 _ _ _ rfl hown s rfl ?c3 ?c4 ?c5 ?_))
  case c3 => unfold maxLen; omega
  case c4 => omega
  case c5 => exact hBw
  intro v' w2 hown' hgrow _
  have hlt : b < w.heap.size := lt_of_block hbk
  have hb2 : w2.heap[b]? = some (.cells #[.pointer (some ⟨b, 0, none⟩), v] 35 (0, 0)) := by
    rw [hgrow.block b hlt (fun e => hne e.symm)]
    exact hbk
  have d0 : w2.cell? ⟨b, 0, none⟩ = some (.pointer (some ⟨b, 0, none⟩)) := by rw [Lib.cell_of_heap hb2]; rfl
  have d1 : w2.cell? ⟨b, 1, none⟩ = some v := by rw [Lib.cell_of_heap hb2]; rfl
  have f1 : w2.frozen? ⟨b, 1, none⟩ = false := Lib.frozen_of_heap hb2 1
  have hbel : Below B w w2 := (Below.refl _ _).grown hgrow hBw (fun k hk => (hown.lt k hk).1)
  obtain ⟨ao, n', cap, rfl⟩ : ∃ ao n' cap, v' = .slice ao n' cap := by
    rcases hown'.2 with ⟨hv, _⟩ | ⟨g, cap, cur, hv, _⟩
    · exact ⟨_, _, _, hv⟩
    · exact ⟨_, _, _, hv⟩
  have HO : Hid _ := hown'
  clear hown' hgrow hown hbk c0 c1
  go_wp2
  go_ret2
  refine ⟨rfl, ?_, ?_⟩
  · exact Lib.BuilderAt.put (T := 35) (e := 5) hB hb2 (bs' := l ++ strCells s) (by rw [List.length_append, Lib.strCells_length]; exact HO.out) (by decide)
  · exact hbel.setCell (p := ⟨b, 1, none⟩) hB _

theorem Bld.later {B b : Nat} {l : List Value} {w w' : World} (h : Bld B b l w) (hb : Below w.heap.size w w') : Bld B b l w' := by
  obtain ⟨hB, v, hbk, hown, hne⟩ := h
  refine ⟨hB, v, by rw [hb.block b (lt_of_block hbk)]; exact hbk, ⟨hown.1, ?_⟩, hne⟩
  rcases hown.2 with h' | ⟨g, cap, cur, hv, hg, hh, r⟩
  · exact .inl h'
  · exact .inr ⟨g, cap, cur, hv, hg, by rw [hb.block g (lt_of_block hh)]; exact hh, r⟩
theorem bytes_one (l : Bs) : ∀ u ∈ byteCells l, u.oneCell' = true := by
  intro u hu
  obtain ⟨b, _, rfl⟩ := List.mem_map.1 hu
  rfl

set_option maxHeartbeats 800000 in
theorem writeLength_any (B b n : Nat) (l : List Value) (w : World) (h : Bld B b l w) (hn : (n : Int) ≤ 4194304) (hlen : (l.length : Int) + 10 ≤ 1099511627776) (hBw : B ≤ w.heap.size) :
    Calls Yba.prog 11 #[.pointer (some ⟨b, 0, none⟩), .int .i64 n] w fun e w' => e = .returned (.tuple #[]) ∧ Bld B b (l ++ byteCells (uvarint n)) w' ∧ Below B w w' := by
  have hul : (uvarint n).length ≤ 10 := Lib.uvarint_length64 (by omega)
  go_enter Yba.func11, Yba.ntmps11
  go_wp2_with fail
  obtain ⟨W0, hW0⟩ : ∃ W0, W0 = w.alloc (.cells #[.int .u8 0, .int .u8 0, .int .u8 0, .int .u8 0, .int .u8 0, .int .u8 0, .int .u8 0, .int .u8 0, .int .u8 0, .int .u8 0] 47) := ⟨_, rfl⟩
  have hb0 : Below w.heap.size w W0 := by rw [hW0]; exact (Below.refl _ _).alloc (Nat.le_refl _) _
  have hs0 : W0.heap.size = w.heap.size + 1 := by rw [hW0]; simp
  have hc0 : ∀ j, j < 10 → (W0.cell? ⟨w.heap.size, 0 + j, none⟩).isSome = true ∧ W0.frozen? ⟨w.heap.size, 0 + j, none⟩ = false := by
    intro j hj
    rw [hW0]
    have hj' : j = 0 ∨ j = 1 ∨ j = 2 ∨ j = 3 ∨ j = 4 ∨ j = 5 ∨ j = 6 ∨ j = 7 ∨ j = 8 ∨ j = 9 := by omega
    rcases hj' with rfl | rfl | rfl | rfl | rfl | rfl | rfl | rfl | rfl | rfl <;> simp
  rw [← hW0]
  clear hW0
  refine (Yba.binary_PutUvarint w.heap.size 0 10 10 n (by omega) W0 hul (fun j hj => hc0 j (by omega))).mono ?_
  rintro e W1 ⟨rfl, hW1⟩
  have hb1 : Below w.heap.size w W1 := by rw [hW1]; exact hb0.trans (Lib.below_setCells_w (Nat.le_refl _) _ _ _)
  have hc1 : ∀ j u, (byteCells (uvarint n))[j]? = some u → W1.cell? ((⟨w.heap.size, 0, none⟩ : Addr).add j) = some u := by
    intro j u hj
    have hjl := (List.getElem?_eq_some_iff.1 hj).1
    rw [hW1, Addr.add_lit, World.cell?_setCells_in w.heap.size _ 0 W0 (fun k hk => (hc0 k (by rw [Lib.byteCells_length] at hk; omega)).1) j hjl, ← hj]
    simp
  clear hW1 hc0
  have hbl := h.later hb1
  have hs1 := hb1.size
  obtain ⟨u, hu⟩ : ∃ u, (uvarint n).length = u := ⟨_, rfl⟩
  rw [hu]
  simp only []
  have hu10 : (u : Int) ≤ 10 := by omega
  have HU : Hid _ := hu
  clear hu
  go_wp2_with fail
  refine (write_any B b l (byteCells (uvarint n)) ⟨w.heap.size, 0, none⟩ u _ _ hbl (by rw [Lib.byteCells_length]; exact HU.out) hc1 (bytes_one _) (by omega) (by omega)).mono ?_
  rintro e w2 ⟨rfl, h2, hb2⟩
  simp only []
  go_wp2
  go_end0
  exact ⟨rfl, h2, (hb1.mono hBw).trans hb2⟩
end Go.Proofs.Ybulkdnrm
