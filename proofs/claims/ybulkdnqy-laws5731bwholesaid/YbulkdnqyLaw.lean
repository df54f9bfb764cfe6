import Derived.Test.YbulkdnqySteps
namespace Go.Proofs.Ybulkdnqy
open Go.ChangeShapes Go.WideShapes Go.ChangeAt Go.RowKit
open Plain
set_option linter.unusedSimpArgs false
set_option linter.unusedVariables false

theorem run_store_float {P : Program} {w : World} {a : Addr} {m : Mode} (k : FloatKind) (b : Nat) : (store a (.float k b) m).run P w = stored P w a (.float k b) m := run_store P w a _ m rfl
attribute [local go_sem] run_store_float

set_option maxRecDepth 20000 in
set_option maxHeartbeats 2000000 in
theorem walk (ak ao : Option Addr) (nk ck no co bk ok bo oo : Nat) (K : List ByteArray) (Z : List Int) (p : ByteArray) (w : World)
    (hK : KeysAt w ak nk ck bk ok K) (hZ : IntsAt w ao no co bo oo Z) (hp : p.size ≤ maxLen) (hsum : (nk : Int) + (no : Int) ≤ 1048576) :
    Calls Yba.prog 3 #[.slice ak nk ck, .slice ao no co, .string p] w fun e w' => e = .returned (.bool true) ∧ Below w.heap.size w w' := by
  have heql := fun (wx : World) (a : Option Addr) (n c : Nat) => Lib.run_eql_slice_nil (P := Yba.prog) wx 23 3 a n c 0 0 Yba.underlying23
  obtain ⟨i33, hi33, hz0, hz1, hz2⟩ := info_parts Yba.info33
  obtain ⟨i3, hi3, hy0, hy1, hy2⟩ := info_parts Yba.info3
  go_enter Yba.func3, Yba.ntmps3
  go_wp2_with (go_at_call 4; refine (clone_all ak nk ck bk ok K _ (by omega) hK).mono ?_)
  rintro e w1 ⟨v, rfl, hown1, hb1⟩
  simp only []
  go_wp2_with (go_at_call 5; refine (sort_all w.heap.size nk v K _ (by omega) hK.len hown1 hb1.size).mono ?_)
  rintro e w2 ⟨rfl, hown2, hb2⟩
  obtain ⟨av, cv, g1, rfl, hg1, hts⟩ := own_strs hK.len hK.sz hown2
  have hb2' : Below w.heap.size w w2 := hb1.trans hb2
  clear hown1 hb1 hb2 hown2
  obtain ⟨ts, hets⟩ : ∃ ts, ts = tsOf K := ⟨_, rfl⟩
  have hord : Hid (Ordered ts nk) := by rw [hets, ← hK.len]; exact tsOf_ordered K
  rw [← hets] at hts
  clear hets
  simp only []
  go_wp2_with (at_make; refine wpList_make_full _ rfl _ _ 26 rfl w2.heap.size 33 i33 (.agg #[.int .i64 0, .string ⟨#[]⟩, .string ⟨#[]⟩, .pointer none, .float .f64 0, .pointer none, .int .i64 0, .bool false]) 8 Yba.underlying26 hi33 hz0 hz1 _ _ _ _ nk rfl rfl rfl rfl ?c1 ?c2 ?c3 ?_)
  case c1 => rw [hz2]; omega
  case c2 => unfold maxLen; omega
  case c3 => exact Nat.le_refl _
  intro w3 hown3 hgrow3
  have hb3 : Below w2.heap.size w2 w3 := (Below.refl _ _).grown hgrow3 (Nat.le_refl _) (by simp)
  clear hgrow3
  go_wp2
  go_loopw [33] (fun i wr => ∃ k : Nat, k ≤ nk ∧ i = .int .i64 k ∧ (∃ xs, wr.ownsRow w2.heap.size 33 8 (.slice (some ⟨w2.heap.size, 0, none⟩) nk nk) nk xs ∧ SL xs k ts) ∧ Below w2.heap.size w2 wr)
    (fun i _ => nk - (intOf i).toNat)
  case atStart => exact ⟨0, Nat.zero_le _, rfl, ⟨_, hown3, ⟨by omega, by omega, by omega, by omega, by omega, by omega, by omega, by omega⟩⟩, hb3⟩
  case round =>
    obtain ⟨k, hk, rfl, ⟨xs, hown, hsl⟩, hbel⟩ := hrel
    clear hown3 hb3
    by_cases hlt : k < nk
    · have e1 := hts.addr (by omega)
      have hlb := hts.lt (by omega)
      have q0 := (hbel.cell (p := ⟨g1, 0 + k, none⟩) hlb).trans (hts.c k hlt)
      rw [Nat.zero_add] at q0
      have hgl : w2.heap.size < wr.heap.size := (hown.lt _ rfl).2
      have fz := hown.frozenAt
      have hfz0 := fz (k * 8)
      have hfz1 := fz (k * 8 + 1)
      have hfz2 := fz (k * 8 + 2)
      have hfz3 := fz (k * 8 + 3)
      have hfz4 := fz (k * 8 + 4)
      have hfz5 := fz (k * 8 + 5)
      have hfz6 := fz (k * 8 + 6)
      have hfz7 := fz (k * 8 + 7)
      clear fz
      have hxl : xs.length = nk * 8 := hown.1
      have hce : ∀ q, q < nk * 8 → ∃ u, wr.cell? ⟨w2.heap.size, q, none⟩ = some u := fun q hq => ⟨xs[q]'(by omega), by rw [hown.cellAt q hq]; exact List.getElem?_eq_getElem _⟩
      obtain ⟨y0, r0⟩ := hce (k * 8) (by omega)
      obtain ⟨y1, r1⟩ := hce (k * 8 + 1) (by omega)
      obtain ⟨y2, r2⟩ := hce (k * 8 + 2) (by omega)
      obtain ⟨y3, r3⟩ := hce (k * 8 + 3) (by omega)
      obtain ⟨y4, r4⟩ := hce (k * 8 + 4) (by omega)
      obtain ⟨y5, r5⟩ := hce (k * 8 + 5) (by omega)
      obtain ⟨y6, r6⟩ := hce (k * 8 + 6) (by omega)
      obtain ⟨y7, r7⟩ := hce (k * 8 + 7) (by omega)
      clear hce
      have HR : Hid _ := loop1_step hlt (Nat.le_refl _) hown hsl hbel
      rw [e1]
      clear e1
      go_wp2
      go_roundw
      case rel => exact ⟨k + 1, by omega, by go_num, HR.out.1, HR.out.2⟩
      case measure => simp [intOf]; omega
    · obtain rfl : nk = k := by omega
      have hgl : w2.heap.size < wr.heap.size := (hown.lt _ rfl).2
      have hsc : ScAt wr w2.heap.size nk ts := scAt_of hown hsl
      clear hown hsl
      have hts4 : StrsAt wr av nk g1 0 ts := hts.later hbel hts.lt
      have hbw : Below w.heap.size w wr := hb2'.trans (hbel.mono hb2'.size)
      have hsw := hbw.size
      have hs2 := hb2'.size
      obtain ⟨M, hM⟩ : ∃ M, M = w2.heap.size := ⟨_, rfl⟩
      obtain ⟨wa, hwa⟩ : ∃ wa, wa = wr := ⟨_, rfl⟩
      cases hao : ao.isNone
      · obtain ⟨a0, rfl⟩ : ∃ a0, ao = some a0 := by cases ao <;> simp at hao ⊢
        go_wp2_with (at_make; refine wpList_make_full _ rfl _ _ 23 rfl wr.heap.size 3 i3 (.int .i64 0) 1 Yba.underlying23 hi3 hy0 hy1 _ _ _ _ no rfl rfl rfl rfl ?d1 ?d2 ?d3 ?_)
        case d1 => rw [hy2]; omega
        case d2 => unfold maxLen; omega
        case d3 => omega
        intro w5 hown5 hgrow5
        obtain ⟨cur, hcur, hcl⟩ := block_of_own hown5
        have hb5 : Below wr.heap.size wr w5 := (Below.refl _ _).grown hgrow5 (by omega) (by simp)
        have hb5' : Below w.heap.size w w5 := hbw.trans (hb5.mono (by omega))
        have hZl := hZ.len
        have hsrc : 0 < (Z.map (Value.int .i64)).length → ∃ ad, some a0 = some ad ∧ ∀ j v, (Z.map (Value.int .i64))[j]? = some v → w5.cell? (ad.add j) = some v := by
          intro hpz
          rw [List.length_map, hZl] at hpz
          refine ⟨_, hZ.addr hpz, fun j v hj => ?_⟩
          have hjl : j < Z.length := by have := (List.getElem?_eq_some_iff.1 hj).1; rwa [List.length_map] at this
          rw [ints_get Z j hjl] at hj
          rw [Addr.add_lit, hb5'.cell (p := ⟨bo, oo + j, none⟩) (hZ.lt hpz), hZ.c j hjl, hj]
        have HCur : Hid _ := hcur
        have HSrc : Hid _ := hsrc
        clear hown5 hgrow5 hcur hsrc
        go_wp2_with (refine wpList_copy_splice rfl (.tmp 50) (.tmp 51) 23 23 rfl 3 Yba.underlying23 (by rw [hi3]; simp [hy1]) _ _ _ _ _ _ rfl rfl wr.heap.size 0 cur 3 HCur.out (Z.map (Value.int .i64)) ?e1 (fun h => ⟨rfl, HSrc.out h⟩) ?e2 (ints_one _) wr.heap.size wr hb5 ?e3 ?_)
        case e1 => rw [List.length_map, hZl]; first | rfl | exact (Nat.min_self _).symm
        case e2 => rw [List.length_map]; omega
        case e3 => omega
        intro w6 HB6 hb6
        have hrow6 : Hid (w6.heap[wr.heap.size]? = some (.cells (Z.map (Value.int .i64)).toArray 3 (0, 0))) := by
          have := HB6.out
          rw [splice_whole (by rw [hcl, List.length_map, hZl])] at this
          exact this
        have hs6 := hb6.size
        have hl6 : wr.heap.size < w6.heap.size := lt_of_block hrow6.out
        clear HB6 HCur HSrc
        obtain ⟨BO, hBO⟩ : ∃ BO, BO = wr.heap.size := ⟨_, rfl⟩
        rw [← hBO] at hl6 hrow6
        have hsc6 : ScAt w6 w2.heap.size nk ts := hsc.later hb6 hgl
        have hts6 : StrsAt w6 av nk g1 0 ts := hts4.later hb6 hts4.lt
        have hbw6 : Below w.heap.size w w6 := hbw.trans (hb6.mono (by omega))
        have hgl6 : w2.heap.size < w6.heap.size := by omega
        rw [← hBO]
        clear hBO hb6 hb5 hb5' hsc hts4 hbw hwa
        go_wp2_with fail
        obtain ⟨W7, hW7⟩ : ∃ W7, W7 = w6.alloc (.cells #[.slice (some ⟨w2.heap.size, 0, none⟩) nk nk, .slice (some ⟨BO, 0, none⟩) no no] 36) := ⟨_, rfl⟩
        have hb7 : Below w6.heap.size w6 W7 := by rw [hW7]; exact (Below.refl _ _).alloc (Nat.le_refl _) _
        have hs7 : W7.heap.size = w6.heap.size + 1 := by rw [hW7]; simp
        have j0 : W7.cell? ⟨w6.heap.size, 0, none⟩ = some (.slice (some ⟨w2.heap.size, 0, none⟩) nk nk) := by rw [hW7]; simp
        have j1 : W7.cell? ⟨w6.heap.size, 1, none⟩ = some (.slice (some ⟨BO, 0, none⟩) no no) := by rw [hW7]; simp
        rw [← hW7]
        clear hW7
        refine (prefixed_any w6.heap.size w2.heap.size nk .nilIface ts p W7 (by omega) (by omega) (by omega) (hsc6.later hb7 hgl6) hord.out j0).mono ?_
        rintro e w8 ⟨rfl, hb8⟩
        have hs8 := hb8.size
        have hb78 : Below w6.heap.size w6 w8 := hb7.trans (hb8.mono (by omega))
        have hsc8 := hsc6.later hb78 hgl6
        have hts8 := hts6.later hb78 hts6.lt
        have hbw8 : Below w.heap.size w w8 := hbw6.trans (hb78.mono (by omega))
        obtain ⟨J, hJ⟩ : ∃ J, J = w6.heap.size := ⟨_, rfl⟩
        have j0' : w8.cell? ⟨J, 0, none⟩ = some (.slice (some ⟨w2.heap.size, 0, none⟩) nk nk) := by rw [hJ]; exact (hb8.cell (p := ⟨w6.heap.size, 0, none⟩) (by show w6.heap.size < _; omega)).trans j0
        have j1' : w8.cell? ⟨J, 1, none⟩ = some (.slice (some ⟨BO, 0, none⟩) no no) := by rw [hJ]; exact (hb8.cell (p := ⟨w6.heap.size, 1, none⟩) (by show w6.heap.size < _; omega)).trans j1
        have hJl : J < w8.heap.size := by omega
        rw [← hJ]
        have HJ : Hid _ := hJ
        have oc8 : ∀ j, j < Z.length → w8.cell? ⟨BO, 0 + j, none⟩ = some (.int .i64 (Z.getD j 0)) := fun j hj => by rw [Nat.zero_add, hb78.cell (p := ⟨BO, j, none⟩) hl6]; exact ints_block hrow6.out j hj
        have zc8 : ∀ j, j < Z.length → w8.cell? ⟨bo, oo + j, none⟩ = some (.int .i64 (Z.getD j 0)) := fun j hj => (hbw8.cell (p := ⟨bo, oo + j, none⟩) (hZ.lt (by have := hZ.len; omega))).trans (hZ.c j hj)
        have hbO : BO < w8.heap.size := by omega
        have OC : Hid _ := oc8
        have ZC : Hid _ := zc8
        clear oc8 zc8
        have hf := from1_le ts p nk
        have hto := to1_le ts p nk
        clear hJ j0 j1 hb8 hb7 hb78 hbw6 hsc6 hts6
        simp only []
        go_wp2
        go_loop [13, 14, 62] (fun a b i => ∃ k : Nat, k ≤ nk ∧ i = .int .i64 k ∧ a = .int .i64 (from1 ts p k : Nat) ∧ b = .int .i64 (to1 ts p k : Nat)) (fun _ _ i => nk - (intOf i).toNat)
        case atStart => exact ⟨0, Nat.zero_le _, rfl, rfl, rfl⟩
        case round =>
          obtain ⟨k, hk2, rfl, rfl, rfl⟩ := hrel
          have b1 := from1_le ts p k
          have b2 := to1_le ts p k
          by_cases hlt2 : k < nk
          · have e1 := hts8.addr (by omega)
            have hgl1 := hts8.lt (by omega)
            have q0 := hts8.c k hlt2
            rw [Nat.zero_add] at q0
            rw [e1]
            clear e1
            by_cases hc : cf1 (bs p) (bs (ts k)) < 0
            · have hbl := less_true hc
              have HC : Hid _ := hc
              clear hc
              go_wp2
              go_round
              case rel => exact ⟨k + 1, by omega, by go_num, by rw [from1_lt HC.out]; go_num, by rw [to1_lt (.inl HC.out)]; go_num⟩
              case measure => simp [intOf]; omega
            · have hbl := less_false hc
              have HC : Hid _ := hc
              clear hc
              cases hh : Lib.hasPrefix (bs (ts k)) (bs p)
              · go_wp2_with (go_at_call 7; refine (has_any _ _ _ (hts8.sz k hlt2) hp).mono ?_; rintro e w' ⟨rfl, rfl⟩)
                go_round
                case rel => exact ⟨k + 1, by omega, by go_num, by rw [from1_ge HC.out], by rw [to1_ge HC.out hh]⟩
                case measure => simp [intOf]; omega
              · go_wp2_with (go_at_call 7; refine (has_any _ _ _ (hts8.sz k hlt2) hp).mono ?_; rintro e w' ⟨rfl, rfl⟩)
                go_round
                case rel => exact ⟨k + 1, by omega, by go_num, by rw [from1_ge HC.out], by rw [to1_lt (.inr hh)]; go_num⟩
                case measure => simp [intOf]; omega
          · obtain rfl : nk = k := by omega
            go_wp2
            go_loopw [102] (fun i wx => ∃ k : Nat, k ≤ nk ∧ i = .int .i64 k ∧ Below w8.heap.size w8 wx) (fun i _ => nk - (intOf i).toNat)
            case atStart => exact ⟨0, Nat.zero_le _, rfl, (Below.refl _ _).alloc (Nat.le_refl _) _⟩
            case round =>
              obtain ⟨k, hk3, rfl, hbx⟩ := hrel
              have hsx := hbx.size
              have x0 := (hbx.cell (p := ⟨J, 0, none⟩) hJl).trans j0'
              have x1 := (hbx.cell (p := ⟨J, 1, none⟩) hJl).trans j1'
              by_cases hlt3 : k < nk
              · have e1 := hts8.addr (by omega)
                have hgl1 := hts8.lt (by omega)
                have q0 := (hbx.cell (p := ⟨g1, 0 + k, none⟩) hgl1).trans (hts8.c k hlt3)
                rw [Nat.zero_add] at q0
                have S := hsc8.later hbx (by omega)
                have s0 := S.c0 k hlt3
                have s1 := S.c1 k hlt3
                have s2 := S.c2 k hlt3
                have s3 := S.c3 k hlt3
                have s4 := S.c4 k hlt3
                have s5 := S.c5 k hlt3
                have s6 := S.c6 k hlt3
                have s7 := S.c7 k hlt3
                clear S
                have hne := neq_sc (ts k)
                have hk0 : (0 : Int) ≤ (k : Int) := by omega
                have hk1 : (k : Int) < (nk : Int) := by omega
                rw [e1]
                clear e1
                go_wp2
                go_quiet (fail)
                go_wp2
                go_roundw
                case rel => exact ⟨k + 1, by omega, by go_num, below_drewN hbx _⟩
                case measure => simp [intOf]; omega
              · go_wp2_with (go_at_call 8; refine (equal_all _ _ no no co BO 0 bo oo Z _ (by omega) hZ.len (fun _ => rfl) hZ.addr (fun j hj => (hbx.cell (p := ⟨BO, 0 + j, none⟩) hbO).trans (OC.out j hj)) (fun j hj => (hbx.cell (p := ⟨bo, oo + j, none⟩) (by show bo < _; have := hZ.lt (by have := hZ.len; omega); have := hbw8.size; omega)).trans (ZC.out j hj))).mono ?_; rintro e w' ⟨rfl, qq, rfl⟩)
                go_ret
                exact ⟨rfl, below_drewN (hbw8.trans (hbx.mono (by omega))) _⟩
      · obtain rfl : ao = none := by cases ao <;> simp at hao ⊢
        have H0 : Hid (no = 0) := (hZ.nil rfl).1
        have hsc6 := hsc
        have hts6 := hts4
        have hbw6 := hbw
        have hgl6 := hgl
        go_wp2_with fail
        obtain ⟨W7, hW7⟩ : ∃ W7, W7 = wr.alloc (.cells #[.slice (some ⟨w2.heap.size, 0, none⟩) nk nk, .slice none 0 0] 36) := ⟨_, rfl⟩
        have hb7 : Below wr.heap.size wr W7 := by rw [hW7]; exact (Below.refl _ _).alloc (Nat.le_refl _) _
        have hs7 : W7.heap.size = wr.heap.size + 1 := by rw [hW7]; simp
        have j0 : W7.cell? ⟨wr.heap.size, 0, none⟩ = some (.slice (some ⟨w2.heap.size, 0, none⟩) nk nk) := by rw [hW7]; simp
        have j1 : W7.cell? ⟨wr.heap.size, 1, none⟩ = some (.slice none 0 0) := by rw [hW7]; simp
        rw [← hW7]
        clear hW7
        refine (prefixed_any wr.heap.size w2.heap.size nk .nilIface ts p W7 (by omega) (by omega) (by omega) (hsc6.later hb7 hgl6) hord.out j0).mono ?_
        rintro e w8 ⟨rfl, hb8⟩
        have hs8 := hb8.size
        have hb78 : Below wr.heap.size wr w8 := hb7.trans (hb8.mono (by omega))
        have hsc8 := hsc6.later hb78 hgl6
        have hts8 := hts6.later hb78 hts6.lt
        have hbw8 : Below w.heap.size w w8 := hbw6.trans (hb78.mono (by omega))
        obtain ⟨J, hJ⟩ : ∃ J, J = wr.heap.size := ⟨_, rfl⟩
        have j0' : w8.cell? ⟨J, 0, none⟩ = some (.slice (some ⟨w2.heap.size, 0, none⟩) nk nk) := by rw [hJ]; exact (hb8.cell (p := ⟨wr.heap.size, 0, none⟩) (by show wr.heap.size < _; omega)).trans j0
        have j1' : w8.cell? ⟨J, 1, none⟩ = some (.slice none 0 0) := by rw [hJ]; exact (hb8.cell (p := ⟨wr.heap.size, 1, none⟩) (by show wr.heap.size < _; omega)).trans j1
        have hJl : J < w8.heap.size := by omega
        rw [← hJ]
        have HJ : Hid _ := hJ
        have hf := from1_le ts p nk
        have hto := to1_le ts p nk
        clear hJ j0 j1 hb8 hb7 hb78 hbw6 hsc6 hts6
        simp only []
        go_wp2
        go_loop [13, 14, 62] (fun a b i => ∃ k : Nat, k ≤ nk ∧ i = .int .i64 k ∧ a = .int .i64 (from1 ts p k : Nat) ∧ b = .int .i64 (to1 ts p k : Nat)) (fun _ _ i => nk - (intOf i).toNat)
        case atStart => exact ⟨0, Nat.zero_le _, rfl, rfl, rfl⟩
        case round =>
          obtain ⟨k, hk2, rfl, rfl, rfl⟩ := hrel
          have b1 := from1_le ts p k
          have b2 := to1_le ts p k
          by_cases hlt2 : k < nk
          · have e1 := hts8.addr (by omega)
            have hgl1 := hts8.lt (by omega)
            have q0 := hts8.c k hlt2
            rw [Nat.zero_add] at q0
            rw [e1]
            clear e1
            by_cases hc : cf1 (bs p) (bs (ts k)) < 0
            · have hbl := less_true hc
              have HC : Hid _ := hc
              clear hc
              go_wp2
              go_round
              case rel => exact ⟨k + 1, by omega, by go_num, by rw [from1_lt HC.out]; go_num, by rw [to1_lt (.inl HC.out)]; go_num⟩
              case measure => simp [intOf]; omega
            · have hbl := less_false hc
              have HC : Hid _ := hc
              clear hc
              cases hh : Lib.hasPrefix (bs (ts k)) (bs p)
              · go_wp2_with (go_at_call 7; refine (has_any _ _ _ (hts8.sz k hlt2) hp).mono ?_; rintro e w' ⟨rfl, rfl⟩)
                go_round
                case rel => exact ⟨k + 1, by omega, by go_num, by rw [from1_ge HC.out], by rw [to1_ge HC.out hh]⟩
                case measure => simp [intOf]; omega
              · go_wp2_with (go_at_call 7; refine (has_any _ _ _ (hts8.sz k hlt2) hp).mono ?_; rintro e w' ⟨rfl, rfl⟩)
                go_round
                case rel => exact ⟨k + 1, by omega, by go_num, by rw [from1_ge HC.out], by rw [to1_lt (.inr hh)]; go_num⟩
                case measure => simp [intOf]; omega
          · obtain rfl : nk = k := by omega
            go_wp2
            go_loopw [102] (fun i wx => ∃ k : Nat, k ≤ nk ∧ i = .int .i64 k ∧ Below w8.heap.size w8 wx) (fun i _ => nk - (intOf i).toNat)
            case atStart => exact ⟨0, Nat.zero_le _, rfl, (Below.refl _ _).alloc (Nat.le_refl _) _⟩
            case round =>
              obtain ⟨k, hk3, rfl, hbx⟩ := hrel
              have hsx := hbx.size
              have x0 := (hbx.cell (p := ⟨J, 0, none⟩) hJl).trans j0'
              have x1 := (hbx.cell (p := ⟨J, 1, none⟩) hJl).trans j1'
              by_cases hlt3 : k < nk
              · have e1 := hts8.addr (by omega)
                have hgl1 := hts8.lt (by omega)
                have q0 := (hbx.cell (p := ⟨g1, 0 + k, none⟩) hgl1).trans (hts8.c k hlt3)
                rw [Nat.zero_add] at q0
                have S := hsc8.later hbx (by omega)
                have s0 := S.c0 k hlt3
                have s1 := S.c1 k hlt3
                have s2 := S.c2 k hlt3
                have s3 := S.c3 k hlt3
                have s4 := S.c4 k hlt3
                have s5 := S.c5 k hlt3
                have s6 := S.c6 k hlt3
                have s7 := S.c7 k hlt3
                clear S
                have hne := neq_sc (ts k)
                have hk0 : (0 : Int) ≤ (k : Int) := by omega
                have hk1 : (k : Int) < (nk : Int) := by omega
                rw [e1]
                clear e1
                go_wp2
                go_quiet (fail)
                go_wp2
                go_roundw
                case rel => exact ⟨k + 1, by omega, by go_num, below_drewN hbx _⟩
                case measure => simp [intOf]; omega
              · go_wp2_with (go_at_call 8; refine (equal_nil no co _ H0.out).mono ?_; rintro e w' ⟨rfl, qq, rfl⟩)
                go_ret
                exact ⟨rfl, below_drewN (hbw8.trans (hbx.mono (by omega))) _⟩
end Go.Proofs.Ybulkdnqy
