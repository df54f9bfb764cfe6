import Derived.Test.YbulkdnrmRowsF
namespace Go.Proofs.Ybulkdnrm
open Go.ChangeShapes Go.WideShapes Go.ChangeAt Go.RowKit
open Go.Lib (uvarint byteCells strCells)
set_option linter.unusedSimpArgs false
set_option linter.unusedVariables false

theorem two_store {w x : World} {B g1 g2 n c1 c2 q : Nat} {f1 f2 : Nat → ByteArray} (h1 : x.ownsRow B 9 1 (.slice (some ⟨g1, 0, none⟩) n c1) n (row f1 n)) (h2 : x.ownsRow B 9 1 (.slice (some ⟨g2, 0, none⟩) n c2) n (row f2 n)) (hne : g1 ≠ g2) (hb : Below B w x) (hB1 : B ≤ g1) (hB2 : B ≤ g2) (s1 s2 : ByteArray) :
    ((x.setCell ⟨g1, q, none⟩ (.string s1)).setCell ⟨g2, q, none⟩ (.string s2)).ownsRow B 9 1 (.slice (some ⟨g1, 0, none⟩) n c1) n (row (upd f1 q s1) n) ∧
    ((x.setCell ⟨g1, q, none⟩ (.string s1)).setCell ⟨g2, q, none⟩ (.string s2)).ownsRow B 9 1 (.slice (some ⟨g2, 0, none⟩) n c2) n (row (upd f2 q s2) n) ∧
    Below B w ((x.setCell ⟨g1, q, none⟩ (.string s1)).setCell ⟨g2, q, none⟩ (.string s2)) := by
  obtain ⟨a1, b1⟩ := h1.stored q (.string s1)
  have k2 := h2.kept b1 (.inr (fun e => hne (Option.some.inj e).symm))
  obtain ⟨a2, b2⟩ := k2.stored q (.string s2)
  have k1 := a1.kept b2 (.inr (fun e => hne (Option.some.inj e)))
  rw [row_set] at k1 a2
  exact ⟨k1, a2, (hb.setCell (p := ⟨g1, q, none⟩) hB1 _).setCell (p := ⟨g2, q, none⟩) hB2 _⟩

theorem ap_app {x : World} {B n : Nat} {vk vv vk' : Value} {xs : List Value} (hv : x.ownsRow B 9 1 vv n xs) (ap : ∀ g, vk.ownBlock = some g → vv.ownBlock = some g → False) {s : Nat} (hat : vk'.ownBlock = vk.ownBlock ∨ vk'.ownBlock = some s) (hs : x.heap.size ≤ s) :
    ∀ g, vk'.ownBlock = some g → vv.ownBlock = some g → False := by
  intro g h1 h2
  rcases hat with h | h
  · exact ap g (h ▸ h1) h2
  · have := (hv.lt g h2).2
    rw [h] at h1
    have := Option.some.inj h1
    omega
/-- the rows while their ends are being moved -/
structure SH (w x : World) (g3 d1 g4 d2 n : Nat) (K V : Nat → ByteArray) (mm : Nat) : Prop where
  k : x.ownsRow w.heap.size 9 1 (.slice (some ⟨g3, 0, none⟩) (n + 1) d1) (n + 1) (row (shf (snoc K n ⟨#[]⟩) mm) (n + 1))
  v : x.ownsRow w.heap.size 9 1 (.slice (some ⟨g4, 0, none⟩) (n + 1) d2) (n + 1) (row (shf (snoc V n ⟨#[]⟩) mm) (n + 1))
  ne : g3 ≠ g4
  b : Below w.heap.size w x
theorem SH.step {w x : World} {g3 d1 g4 d2 n mp : Nat} {K V : Nat → ByteArray} (h : SH w x g3 d1 g4 d2 n K V (mp + 1)) :
    SH w ((x.setCell ⟨g3, mp + 1, none⟩ (.string (snoc K n ⟨#[]⟩ mp))).setCell ⟨g4, mp + 1, none⟩ (.string (snoc V n ⟨#[]⟩ mp))) g3 d1 g4 d2 n K V mp := by
  obtain ⟨a, b, c⟩ := two_store (q := mp + 1) h.k h.v h.ne h.b (h.k.lt _ rfl).1 (h.v.lt _ rfl).1 (snoc K n ⟨#[]⟩ mp) (snoc V n ⟨#[]⟩ mp)
  have e1 := shf_step (snoc K n ⟨#[]⟩) (mp + 1) (n + 1) (by omega)
  have e2 := shf_step (snoc V n ⟨#[]⟩) (mp + 1) (n + 1) (by omega)
  simp only [Nat.add_sub_cancel] at e1 e2
  rw [e1] at a
  rw [e2] at b
  exact ⟨a, b, h.ne, c⟩
theorem SH.stop {w x : World} {g3 d1 g4 d2 n j : Nat} {K V : Nat → ByteArray} (h : SH w x g3 d1 g4 d2 n K V j) (hj : j ≤ n) (s1 s2 : ByteArray) :
    Two ((x.setCell ⟨g3, j, none⟩ (.string s1)).setCell ⟨g4, j, none⟩ (.string s2)) w.heap.size (.slice (some ⟨g3, 0, none⟩) (n + 1) d1) (.slice (some ⟨g4, 0, none⟩) (n + 1) d2) (n + 1) (ins K j s1) (ins V j s2) ∧
    Below w.heap.size w ((x.setCell ⟨g3, j, none⟩ (.string s1)).setCell ⟨g4, j, none⟩ (.string s2)) := by
  obtain ⟨a, b, c⟩ := two_store (q := j) h.k h.v h.ne h.b (h.k.lt _ rfl).1 (h.v.lt _ rfl).1 s1 s2
  rw [shf_end _ _ _ _ _ hj] at a b
  exact ⟨⟨a, b, fun g e1 e2 => h.ne (Option.some.inj (e1.trans e2.symm))⟩, c⟩
theorem SH.ck {w x : World} {g3 d1 g4 d2 n mm q : Nat} {K V : Nat → ByteArray} (h : SH w x g3 d1 g4 d2 n K V mm) (hq : q ≤ n) : x.cell? ⟨g3, q, none⟩ = some (.string (shf (snoc K n ⟨#[]⟩) mm q)) := by
  rw [h.k.cellAt q (by omega), row_get _ _ _ (by omega)]
theorem SH.cv {w x : World} {g3 d1 g4 d2 n mm q j : Nat} {K V : Nat → ByteArray} (h : SH w x g3 d1 g4 d2 n K V mm) (hq : q ≤ n) (s : Value) : (x.setCell ⟨g3, j, none⟩ s).cell? ⟨g4, q, none⟩ = some (.string (shf (snoc V n ⟨#[]⟩) mm q)) := by
  obtain ⟨a1, b1⟩ := h.k.stored j s
  have k2 := h.v.kept b1 (.inr (fun e => h.ne (Option.some.inj e).symm))
  rw [k2.cellAt q (by omega), row_get _ _ _ (by omega)]
theorem SH.fk {w x : World} {g3 d1 g4 d2 n mm q : Nat} {K V : Nat → ByteArray} (h : SH w x g3 d1 g4 d2 n K V mm) : x.frozen? ⟨g3, q, none⟩ = false := h.k.frozenAt q
theorem SH.fv {w x : World} {g3 d1 g4 d2 n mm q j : Nat} {K V : Nat → ByteArray} (h : SH w x g3 d1 g4 d2 n K V mm) (s : Value) : (x.setCell ⟨g3, j, none⟩ s).frozen? ⟨g4, q, none⟩ = false := by
  obtain ⟨a1, b1⟩ := h.k.stored j s
  exact (h.v.kept b1 (.inr (fun e => h.ne (Option.some.inj e).symm))).frozenAt q
theorem shf_at (f : Nat → ByteArray) (m q : Nat) (h : q ≤ m) : shf f m q = f q := by simp [shf, h]

def vD (nv : Nat) (vf : Nat → ByteArray) : Nat → ByteArray := fun j => if j < nv then vf j else ⟨#[]⟩

/-- what holds at the outer loop's head -/
def BR (w : World) (kf vd : Nat → ByteArray) (ks vs : Value) (idx : Nat) (wr : World) : Prop :=
  ∃ n K V, n ≤ idx ∧ Two wr w.heap.size ks vs n K V ∧ Ord K n ∧ wt K n + wt V n ≤ wt kf idx + wt vd idx ∧ Below w.heap.size w wr
def BuildPost (w : World) (nk : Nat) (e : Ending) (w' : World) : Prop :=
  ∃ vk vv n K V, e = .returned (.tuple #[vk, vv]) ∧ n ≤ nk ∧ Two w' w.heap.size vk vv n K V ∧ Ord K n ∧ wt K n + wt V n ≤ 1048576 ∧ Below w.heap.size w w'

theorem br_skip {w wr : World} {kf vd : Nat → ByteArray} {ks vs : Value} {idx : Nat} (h : BR w kf vd ks vs idx wr) : BR w kf vd ks vs (idx + 1) wr := by
  obtain ⟨n, K, V, h1, h2, h3, h4, h5⟩ := h
  exact ⟨n, K, V, by omega, h2, h3, by simp only [wt]; omega, h5⟩

theorem bs_lt_of {a b : Bs} (h1 : ¬ a < b) (h2 : ¬ a = b) : b < a := by
  rcases Std.lt_trichotomy a b with h | h | h
  · exact absurd h h1
  · exact absurd h h2
  · exact h
theorem ord_hi {K : Nat → ByteArray} {n jj : Nat} {x : ByteArray} (h : Ord K n) (h1 : ¬ bs (K jj) < bs x) (h2 : ¬ bs (K jj) = bs x) : ∀ q, jj ≤ q → q < n → bs x < bs (K q) := by
  intro q hq hqn
  have h3 := bs_lt_of h1 h2
  by_cases e : jj = q
  · subst e; exact h3
  · exact List.lt_trans h3 (h jj q (by omega) hqn)

set_option maxRecDepth 20000 in
set_option maxHeartbeats 2000000 in
theorem build_any (ak av : Option Addr) (nk ck nv cv gk ok gv ov : Nat) (kf vf : Nat → ByteArray) (w : World) (hnk : (nk : Int) ≤ 4096) (hnv : (nv : Int) ≤ 140737488351232) (hk : StrsAt w ak nk gk ok kf) (hv : StrsAt w av nv gv ov vf)
    (hsum : wt kf nk + wt (vD nv vf) nk ≤ 1048576) :
    Calls Yba.prog 4 #[.slice ak nk ck, .slice av nv cv] w fun e w' => BuildPost w nk e w' := by
  obtain ⟨i0, hi, hz0, hz1, hz2⟩ := info_parts Yba.info9
  have HSUM : Hid _ := hsum
  clear hsum
  go_enter Yba.func4, Yba.ntmps4
  go_wp2
  go_loopw [6, 7, 8] (fun ks vs i wr => ∃ idx : Nat, idx ≤ nk ∧ i = .int .i64 idx ∧ BR w kf (vD nv vf) ks vs idx wr) (fun _ _ i _ => nk - (intOf i).toNat)
  case atStart => exact ⟨0, Nat.zero_le _, rfl, ⟨0, fun _ => ⟨#[]⟩, fun _ => ⟨#[]⟩, Nat.le_refl _, two_nil _ _ _ _, (fun a b _ h => by omega), Nat.le_refl _, Below.refl _ _⟩⟩
  case round =>
    obtain ⟨idx, hidx, rfl, hbr⟩ := hrel
    by_cases hlt : idx < nk
    · have HSK : Hid _ := br_skip hbr
      obtain ⟨n, K, V, hnx, htwo, hord, hwt, hbel⟩ := hbr
      have HORD : Hid _ := hord
      have HWT : Hid _ := hwt
      clear hord hwt
      have hsz := hbel.size
      obtain ⟨a1, c1, g1, rfl, ha1⟩ := own_form htwo.k
      obtain ⟨a2, c2, g2, rfl, ha2⟩ := own_form htwo.v
      have ek := hk.addr (by omega)
      have qk := (hbel.cell (p := ⟨gk, ok + idx, none⟩) (hk.lt (by omega))).trans (hk.c idx hlt)
      rw [ek]
      clear ek
      by_cases hiv : idx < nv
      · have ev := hv.addr (by omega)
        have qv := (hbel.cell (p := ⟨gv, ov + idx, none⟩) (hv.lt (by omega))).trans (hv.c idx hiv)
        rw [ev]
        clear ev
        by_cases hx : bs (vf idx) = []
        · have e1 := empty_true hx
          clear hx
          go_wp2
          go_roundw
          case rel => exact ⟨idx + 1, by omega, by go_num, HSK.out⟩
          case measure => simp [intOf]; omega
        · have e1 := empty_false hx
          clear hx
          have hSt := strs_own htwo.k ha1
          go_wp2
          go_loop [11] (fun j => ∃ jj : Nat, jj ≤ n ∧ j = .int .i64 jj ∧ Hid (∀ q, q < jj → bs (K q) < bs (kf idx))) (fun j => n - (intOf j).toNat)
          case atStart => exact ⟨0, Nat.zero_le _, rfl, fun q hq => by omega⟩
          case round =>
            obtain ⟨jj, hjj, rfl, HLO⟩ := hrel
            by_cases hjn : jj < n
            · have ea := ha1 (by omega)
              have qj := hSt.c jj hjn
              rw [Nat.zero_add] at qj
              subst ea
              by_cases hl : bs (K jj) < bs (kf idx)
              · have hb1 := less_true hl
                have HL : Hid _ := hl
                clear hl
                go_wp2
                go_round
                case rel =>
                  refine ⟨jj + 1, by omega, by go_num, fun q hq => ?_⟩
                  by_cases hqj : q = jj
                  · subst hqj; exact HL.out
                  · exact HLO.out q (by omega)
                case measure => simp [intOf]; omega
              · have hb1 := less_false hl
                have HL : Hid _ := hl
                clear hl
                by_cases he : bs (K jj) = bs (kf idx)
                · have hb2 := eq_true he
                  clear he
                  go_wp2
                  go_roundw
                  case rel => exact ⟨idx + 1, by omega, by go_num, HSK.out⟩
                  case measure => simp [intOf]; omega
                · have hb2 := eq_false he
                  have HE : Hid _ := he
                  clear he
                  have HHI : Hid (∀ q, jj ≤ q → q < n → bs (kf idx) < bs (K q)) := ord_hi HORD.out HL.out HE.out
                  --TAIL
                  go_wp2_with (at_builtin; refine wpList_append_own_at _ rfl (.tmp 59) (.tmp 60) 22 rfl w.heap.size 9 i0 (.string ⟨#[]⟩) 1 16 Yba.underlying22 hi hz0 hz1 hz2 rfl (by decide) _ _ _ rfl (htwo.k.alloc _) ⟨wr.heap.size, 0, none⟩ 1 1 [.string ⟨#[]⟩] rfl rfl (cell_one_new _ _ _) (by intro u hu; simp at hu; subst hu; rfl) ?c3 ?c4 ?c5 ?_)
                  case c3 => unfold maxLen; omega
                  case c4 => omega
                  case c5 => first | omega | (simp; omega)
                  intro v1 w1 hown1 hgr1 hne1 hat1
                  have hv1 := keep_v (htwo.v.alloc _) hgr1 htwo.ap
                  have hap1 := ap_app htwo.v htwo.ap hat1 (by simp <;> omega)
                  have hbel1 : Below w.heap.size w w1 := (hbel.alloc (by omega) _).grown hgr1 (by simp; omega) (fun q hq => (htwo.k.lt q hq).1)
                  have hsz1 := hbel1.size
                  clear hgr1 hne1 hat1
                  go_wp2_with (at_builtin; refine wpList_append_own_at _ rfl (.tmp 62) (.tmp 63) 22 rfl w.heap.size 9 i0 (.string ⟨#[]⟩) 1 16 Yba.underlying22 hi hz0 hz1 hz2 rfl (by decide) _ _ _ rfl (hv1.alloc _) ⟨w1.heap.size, 0, none⟩ 1 1 [.string ⟨#[]⟩] rfl rfl (cell_one_new _ _ _) (by intro u hu; simp at hu; subst hu; rfl) ?d3 ?d4 ?d5 ?_)
                  case d3 => unfold maxLen; omega
                  case d4 => omega
                  case d5 => first | omega | (simp; omega)
                  intro v2 w2 hown2 hgr2 hne2 hat2
                  have hk2 := keep_v (hown1.alloc _) hgr2 (fun g e1 e2 => hap1 g e2 e1)
                  have hap2 := ap_app hown1 (fun g e1 e2 => hap1 g e2 e1) hat2 (by simp <;> omega)
                  have hbel2 : Below w.heap.size w w2 := (hbel1.alloc (by omega) _).grown hgr2 (by simp; omega) (fun q hq => (hv1.lt q hq).1)
                  have hsz2 := hbel2.size
                  clear hgr2 hne2 hat2
                  rw [row_snoc, shf_start] at hown2 hk2
                  obtain ⟨b1, d1, g3, rfl, hb3⟩ := own_form hk2
                  obtain ⟨b2, d2, g4, rfl, hb4⟩ := own_form hown2
                  obtain rfl := hb3 (by omega)
                  obtain rfl := hb4 (by omega)
                  have HSH : Hid _ := (⟨hk2, hown2, fun e => hap2 g4 rfl (by rw [e]; rfl), hbel2⟩ : SH w w2 g3 d1 g4 d2 n K V n)
                  clear hown2 hk2 hap2 hbel2 hown1 hv1 hap1 hbel1 hb3 hb4
                  go_wp2
                  go_loopw [12] (fun m x => ∃ mm : Nat, jj ≤ mm ∧ mm ≤ n ∧ m = .int .i64 mm ∧ Hid (SH w x g3 d1 g4 d2 n K V mm)) (fun m _ => (intOf m).toNat)
                  case atStart => exact ⟨n, by omega, Nat.le_refl _, by go_num, HSH⟩
                  case round =>
                    obtain ⟨mm, hjm, hmn, rfl, HS⟩ := hrel
                    by_cases hmj : jj < mm
                    · obtain ⟨mp, rfl⟩ : ∃ mp, mm = mp + 1 := ⟨mm - 1, by omega⟩
                      have HS2 : Hid _ := HS.out.step
                      have r1 := HS.out.ck (q := mp) (by omega)
                      rw [shf_at _ _ _ (by omega)] at r1
                      have r2 := HS.out.ck (q := mp + 1) (by omega)
                      have r3 := HS.out.cv (q := mp) (j := mp + 1) (by omega) (.string (snoc K n ⟨#[]⟩ mp))
                      rw [shf_at _ _ _ (by omega)] at r3
                      have r4 := HS.out.cv (q := mp + 1) (j := mp + 1) (by omega) (.string (snoc K n ⟨#[]⟩ mp))
                      have r5 := HS.out.fk (q := mp + 1)
                      have r6 := HS.out.fv (q := mp + 1) (j := mp + 1) (.string (snoc K n ⟨#[]⟩ mp))
                      go_wp2
                      go_roundw
                      case rel => exact ⟨mp, by omega, by omega, by go_num, HS2⟩
                      case measure => simp [intOf] <;> omega
                    · obtain rfl : jj = mm := by omega
                      have HT : Hid _ := HS.out.stop (by omega) (kf idx) (vf idx)
                      have r2 := HS.out.ck (q := jj) (by omega)
                      have r4 := HS.out.cv (q := jj) (j := jj) (by omega) (.string (kf idx))
                      have r5 := HS.out.fk (q := jj)
                      have r6 := HS.out.fv (q := jj) (j := jj) (.string (kf idx))
                      go_wp2
                      go_roundw
                      case rel =>
                        refine ⟨idx + 1, by omega, by go_num, ⟨n + 1, ins K jj (kf idx), ins V jj (vf idx), by omega, HT.out.1, ord_ins HORD.out (by omega) HLO.out HHI.out, ?_, HT.out.2⟩⟩
                        rw [wt_ins _ _ _ _ (by omega), wt_ins _ _ _ _ (by omega)]
                        have := HWT.out
                        simp only [wt, vD, if_pos hiv]
                        omega
                      case measure => simp [intOf]; omega
            · obtain rfl : n = jj := by omega
              have HHI : Hid (∀ q, n ≤ q → q < n → bs (kf idx) < bs (K q)) := fun q h1 h2 => by omega
              go_wp2_with (at_builtin; refine wpList_append_own_at _ rfl (.tmp 59) (.tmp 60) 22 rfl w.heap.size 9 i0 (.string ⟨#[]⟩) 1 16 Yba.underlying22 hi hz0 hz1 hz2 rfl (by decide) _ _ _ rfl (htwo.k.alloc _) ⟨wr.heap.size, 0, none⟩ 1 1 [.string ⟨#[]⟩] rfl rfl (cell_one_new _ _ _) (by intro u hu; simp at hu; subst hu; rfl) ?c3 ?c4 ?c5 ?_)
              case c3 => unfold maxLen; omega
              case c4 => omega
              case c5 => first | omega | (simp; omega)
              intro v1 w1 hown1 hgr1 hne1 hat1
              have hv1 := keep_v (htwo.v.alloc _) hgr1 htwo.ap
              have hap1 := ap_app htwo.v htwo.ap hat1 (by simp <;> omega)
              have hbel1 : Below w.heap.size w w1 := (hbel.alloc (by omega) _).grown hgr1 (by simp; omega) (fun q hq => (htwo.k.lt q hq).1)
              have hsz1 := hbel1.size
              clear hgr1 hne1 hat1
              go_wp2_with (at_builtin; refine wpList_append_own_at _ rfl (.tmp 62) (.tmp 63) 22 rfl w.heap.size 9 i0 (.string ⟨#[]⟩) 1 16 Yba.underlying22 hi hz0 hz1 hz2 rfl (by decide) _ _ _ rfl (hv1.alloc _) ⟨w1.heap.size, 0, none⟩ 1 1 [.string ⟨#[]⟩] rfl rfl (cell_one_new _ _ _) (by intro u hu; simp at hu; subst hu; rfl) ?d3 ?d4 ?d5 ?_)
              case d3 => unfold maxLen; omega
              case d4 => omega
              case d5 => first | omega | (simp; omega)
              intro v2 w2 hown2 hgr2 hne2 hat2
              have hk2 := keep_v (hown1.alloc _) hgr2 (fun g e1 e2 => hap1 g e2 e1)
              have hap2 := ap_app hown1 (fun g e1 e2 => hap1 g e2 e1) hat2 (by simp <;> omega)
              have hbel2 : Below w.heap.size w w2 := (hbel1.alloc (by omega) _).grown hgr2 (by simp; omega) (fun q hq => (hv1.lt q hq).1)
              have hsz2 := hbel2.size
              clear hgr2 hne2 hat2
              rw [row_snoc, shf_start] at hown2 hk2
              obtain ⟨b1, d1, g3, rfl, hb3⟩ := own_form hk2
              obtain ⟨b2, d2, g4, rfl, hb4⟩ := own_form hown2
              obtain rfl := hb3 (by omega)
              obtain rfl := hb4 (by omega)
              have HSH : Hid _ := (⟨hk2, hown2, fun e => hap2 g4 rfl (by rw [e]; rfl), hbel2⟩ : SH w w2 g3 d1 g4 d2 n K V n)
              clear hown2 hk2 hap2 hbel2 hown1 hv1 hap1 hbel1 hb3 hb4
              go_wp2
              go_loopw [12] (fun m x => ∃ mm : Nat, n ≤ mm ∧ mm ≤ n ∧ m = .int .i64 mm ∧ Hid (SH w x g3 d1 g4 d2 n K V mm)) (fun m _ => (intOf m).toNat)
              case atStart => exact ⟨n, by omega, Nat.le_refl _, by go_num, HSH⟩
              case round =>
                obtain ⟨mm, hjm, hmn, rfl, HS⟩ := hrel
                by_cases hmj : n < mm
                · omega
                · obtain rfl : n = mm := by omega
                  have HT : Hid _ := HS.out.stop (by omega) (kf idx) (vf idx)
                  have r2 := HS.out.ck (q := n) (by omega)
                  have r4 := HS.out.cv (q := n) (j := n) (by omega) (.string (kf idx))
                  have r5 := HS.out.fk (q := n)
                  have r6 := HS.out.fv (q := n) (j := n) (.string (kf idx))
                  go_wp2
                  go_roundw
                  case rel =>
                    refine ⟨idx + 1, by omega, by go_num, ⟨n + 1, ins K n (kf idx), ins V n (vf idx), by omega, HT.out.1, ord_ins HORD.out (by omega) HLO.out HHI.out, ?_, HT.out.2⟩⟩
                    rw [wt_ins _ _ _ _ (by omega), wt_ins _ _ _ _ (by omega)]
                    have := HWT.out
                    simp only [wt, vD, if_pos hiv]
                    omega
                  case measure => simp [intOf]; omega
      · have hge : (nv : Int) ≤ (idx : Int) := by omega
        go_wp2
        go_roundw
        case rel => exact ⟨idx + 1, by omega, by go_num, HSK.out⟩
        case measure => simp [intOf]; omega
    · obtain rfl : nk = idx := by omega
      go_wp2
      go_ret2
      obtain ⟨n, K, V, h1, h2, h3, h4, h5⟩ := hbr
      exact ⟨_, _, n, K, V, rfl, h1, h2, h3, Nat.le_trans h4 HSUM.out, h5⟩
end Go.Proofs.Ybulkdnrm
