import Derived.Test.YbulkdnrmPlain
import Derived.Laws.Concat
namespace Go.Proofs.Ybulkdnrm
open Go.ChangeShapes Go.WideShapes Go.ChangeAt Go.RowKit
open Go.Lib (uvarint byteCells strCells)
set_option linter.unusedSimpArgs false
set_option linter.unusedVariables false

theorem wt_vD (nv : Nat) (vf : Nat → ByteArray) : ∀ m, wt (vD nv vf) m ≤ wt vf nv
  | 0 => by simp [wt]
  | m + 1 => by
    by_cases h : m < nv
    · have e : wt (vD nv vf) (m + 1) = wt vf (m + 1) := wt_congr _ (fun q hq => by simp only [vD]; rw [if_pos (by omega)])
      rw [e]; exact wt_mono vf (by omega)
    · have := wt_vD nv vf m
      have hm : vD nv vf m = ⟨#[]⟩ := by simp only [vD]; rw [if_neg h]
      simp only [wt, hm]
      exact this

theorem cat_bs (a b : ByteArray) : bs a ++ bs b = bs (a ++ b) := by simp
theorem cat_size (a b : ByteArray) : (a ++ b).size = a.size + b.size := by simp
theorem two_app {w wr w1 w2 : World} {B m : Nat} {ek ev v1 v2 : Value} {K' V' : Nat → ByteArray} {x y : ByteArray} {o1 o2 : Obj} {z1 z2 : Nat} (htwo : Two wr B ek ev m K' V') (hbel : Below B w wr) (hB : B ≤ wr.heap.size)
    (ho1 : w1.ownsRow B 9 1 v1 (m + 1) (row K' m ++ [.string x])) (hg1 : (wr.alloc o1).grownBy w1 ek.ownBlock) (ht1 : v1.ownBlock = ek.ownBlock ∨ v1.ownBlock = some z1) (hz1 : wr.heap.size ≤ z1)
    (ho2 : w2.ownsRow B 9 1 v2 (m + 1) (row V' m ++ [.string y])) (hg2 : (w1.alloc o2).grownBy w2 ev.ownBlock) (ht2 : v2.ownBlock = ev.ownBlock ∨ v2.ownBlock = some z2) (hz2 : w1.heap.size ≤ z2) :
    Two w2 B v1 v2 (m + 1) (snoc K' m x) (snoc V' m y) ∧ Below B w w2 := by
  have ap1 := ap_app htwo.v htwo.ap ht1 hz1
  have b1 : Below B w w1 := (hbel.alloc hB _).grown hg1 (by simp; omega) (fun q hq => (htwo.k.lt q hq).1)
  have s1 := hg1.size
  have hs1 : wr.heap.size ≤ w1.heap.size := by simp at s1; omega
  have k2 := keep_v (ho1.alloc o2) hg2 (fun g e1 e2 => ap1 g e2 e1)
  have ap2 := ap_app ho1 (fun g e1 e2 => ap1 g e2 e1) ht2 hz2
  rw [row_snoc] at ho2 k2
  have kv := keep_v (htwo.v.alloc o1) hg1 htwo.ap
  refine ⟨⟨k2, ho2, fun g e1 e2 => ap2 g e2 e1⟩, (b1.alloc (by omega) _).grown hg2 (by simp; omega) (fun q hq => (kv.lt q hq).1)⟩

/-- the third loop's relation -/
def LR (w wr : World) (K V : Nat → ByteArray) (key nv : Bs) (ek ev : Value) (p : Bool) (i : Nat) : Prop :=
  ∃ m K' V', m ≤ 2 * i ∧ Two wr w.heap.size ek ev m K' V' ∧ ents K' V' m = (lp K V key nv i).2 ∧ p = (lp K V key nv i).1 ∧ Below w.heap.size w wr
theorem lr_eq {w wr : World} {K V : Nat → ByteArray} {key nv : Bs} {ek ev : Value} {p : Bool} {i : Nat} (h : LR w wr K V key nv ek ev p i) (he : bs (K i) = key) : LR w wr K V key nv ek ev p (i + 1) := by
  obtain ⟨m, K', V', h1, h2, h3, h4, h5⟩ := h
  have e : lp K V key nv (i + 1) = lp K V key nv i := by rw [lp_succ]; simp [stp, he]
  exact ⟨m, K', V', by omega, h2, by rw [e]; exact h3, by rw [e]; exact h4, h5⟩
theorem lr_app {w w' : World} {K V K' V' : Nat → ByteArray} {key nv : Bs} {ek ev : Value} {p : Bool} {i m : Nat} (hm : m ≤ 2 * i) (h3 : ents K' V' m = (lp K V key nv i).2) (h4 : p = (lp K V key nv i).1) (hne : ¬ bs (K i) = key) (hp : p = true ∨ ¬ key < bs (K i))
    (h : Two w' w.heap.size ek ev (m + 1) (snoc K' m (K i)) (snoc V' m (V i)) ∧ Below w.heap.size w w') : LR w w' K V key nv ek ev p (i + 1) := by
  have e : lp K V key nv (i + 1) = (p, ents K' V' m ++ [(bs (K i), bs (V i))]) := by
    rw [lp_succ]
    simp only [stp, if_neg hne]
    rw [if_neg (by
      rintro ⟨a, b⟩
      rcases hp with hp | hp
      · rw [hp] at h4; rw [← h4] at a; cases a
      · exact hp b), h3, h4]
  exact ⟨m + 1, _, _, by omega, h.1, by rw [e, ents_snoc], by rw [e], h.2⟩
theorem lr_ins0 {w w' : World} {K V K' V' : Nat → ByteArray} {key nv : Bs} {ek ev : Value} {i m : Nat} (hm : m ≤ 2 * i) (h3 : ents K' V' m = (lp K V key nv i).2) (h4 : false = (lp K V key nv i).1) (hne : ¬ bs (K i) = key) (hp : key < bs (K i)) (hnv : nv = [])
    (h : Two w' w.heap.size ek ev (m + 1) (snoc K' m (K i)) (snoc V' m (V i)) ∧ Below w.heap.size w w') : LR w w' K V key nv ek ev true (i + 1) := by
  have e : lp K V key nv (i + 1) = (true, ents K' V' m ++ [(bs (K i), bs (V i))]) := by
    rw [lp_succ]
    simp only [stp, if_neg hne]
    rw [if_pos ⟨h4.symm, hp⟩, h3]
    simp [insE, hnv]
  exact ⟨m + 1, _, _, by omega, h.1, by rw [e, ents_snoc], by rw [e], h.2⟩
theorem lr_ins1 {w w' : World} {K V K' V' : Nat → ByteArray} {key nv : ByteArray} {ek ev : Value} {i m : Nat} (hm : m ≤ 2 * i) (h3 : ents K' V' m = (lp K V (bs key) (bs nv) i).2) (h4 : false = (lp K V (bs key) (bs nv) i).1) (hne : ¬ bs (K i) = bs key) (hp : bs key < bs (K i)) (hnv : ¬ bs nv = [])
    (h : Two w' w.heap.size ek ev (m + 1 + 1) (snoc (snoc K' m key) (m + 1) (K i)) (snoc (snoc V' m nv) (m + 1) (V i)) ∧ Below w.heap.size w w') : LR w w' K V (bs key) (bs nv) ek ev true (i + 1) := by
  have e : lp K V (bs key) (bs nv) (i + 1) = (true, ents K' V' m ++ [(bs key, bs nv)] ++ [(bs (K i), bs (V i))]) := by
    rw [lp_succ]
    simp only [stp, if_neg hne]
    rw [if_pos ⟨h4.symm, hp⟩, h3]
    simp [insE, hnv]
  exact ⟨m + 1 + 1, _, _, by omega, h.1, by rw [e, ents_snoc, ents_snoc], by rw [e], h.2⟩

theorem fin_true {K V K' V' : Nat → ByteArray} {key nv : Bs} {n m : Nat} (h : ents K' V' m = (lp K V key nv n).2) (hp : true = (lp K V key nv n).1) : ents K' V' m = fin key nv (lp K V key nv n) := by
  simp only [fin]; rw [if_neg (by rw [← hp]; simp), h]
theorem fin_none {K V K' V' : Nat → ByteArray} {key nv : Bs} {n m : Nat} (h : ents K' V' m = (lp K V key nv n).2) (hp : false = (lp K V key nv n).1) (hn : nv = []) : ents K' V' m = fin key nv (lp K V key nv n) := by
  simp only [fin]; rw [if_pos hp.symm, h]; simp [insE, hn]
theorem fin_some {K V K' V' : Nat → ByteArray} {key nv : ByteArray} {n m : Nat} (h : ents K' V' m = (lp K V (bs key) (bs nv) n).2) (hp : false = (lp K V (bs key) (bs nv) n).1) (hn : ¬ bs nv = []) : ents (snoc K' m key) (snoc V' m nv) (m + 1) = fin (bs key) (bs nv) (lp K V (bs key) (bs nv) n) := by
  rw [ents_snoc, h]; simp only [fin]; rw [if_pos hp.symm]; simp [insE, hn]
theorem fin_ok {K V K2 V2 : Nat → ByteArray} {n m : Nat} {key nv : ByteArray} {pre mid post : List En} (ho : Ord K n) (hp : KeyPlace (ents K V n) (bs key) pre mid post) (he : ents K2 V2 m = fin (bs key) (bs nv) (lp K V (bs key) (bs nv) n))
    (zk : ∀ j, j < n → (K j).size ≤ 1048576) (zv : ∀ j, j < n → (V j).size ≤ 1048576) (hk : (key.size : Int) ≤ 1048576) (hn : (nv.size : Int) ≤ 1048576) :
    (∀ j, j < m → (K2 j).size ≤ 1048576 ∧ (V2 j).size ≤ 1048576) ∧ encTo K2 V2 m = encE pre ++ (insB (bs key) (bs nv) ++ encE post) ∧ (encTo K2 V2 m).length ≤ (encTo K V n).length + 2097172 := by
  rw [law_list (bs nv) ho hp] at he
  have e2 : encTo K2 V2 m = encE pre ++ (insB (bs key) (bs nv) ++ encE post) := by rw [encTo_ents, he, encE_append, encE_append, encE_insE]
  refine ⟨fun j hj => ?_, e2, ?_⟩
  · have hm := mem_ents K2 V2 hj
    rw [he] at hm
    have hold : ∀ x : En, x ∈ ents K V n → x.1.length ≤ 1048576 ∧ x.2.length ≤ 1048576 := fun x hx => by
      obtain ⟨i, hi, rfl⟩ := ents_mem hx
      exact ⟨zk i hi, zv i hi⟩
    rcases List.mem_append.1 hm with h | h
    · exact hold _ (by rw [hp.whole]; exact List.mem_append_left _ h)
    · rcases List.mem_append.1 h with h | h
      · unfold insE at h
        split at h
        · cases h
        · have := List.mem_singleton.1 h
          have h1 : bs (K2 j) = bs key := congrArg Prod.fst this
          have h2 : bs (V2 j) = bs nv := congrArg Prod.snd this
          have h3 : (K2 j).size = key.size := congrArg List.length h1
          have h4 : (V2 j).size = nv.size := congrArg List.length h2
          omega
      · exact hold _ (by rw [hp.whole]; exact List.mem_append_right _ (List.mem_append_right _ h))
  · rw [e2, encTo_ents, hp.whole, encE_append, encE_append]
    have h1 : (insB (bs key) (bs nv)).length ≤ 2097172 := by
      unfold insB
      split
      · simp
      · have := enc1_le (k := bs key) (v := bs nv) (by simp; omega) (by simp; omega)
        simp at this
        omega
    simp only [List.length_append]
    omega

def LawPost (w : World) (e : Ending) (w' : World) : Prop := e = .returned (.bool true) ∧ Below w.heap.size w w'

set_option maxRecDepth 20000 in
set_option maxHeartbeats 4000000 in
theorem law_any (ak av : Option Addr) (nk ck nv cv gk ok gv ov : Nat) (kf vf : Nat → ByteArray) (key value more : ByteArray) (w : World) (hnk : (nk : Int) ≤ 140737488351232) (hnv : (nv : Int) ≤ 140737488351232)
    (hk : StrsAt w ak nk gk ok kf) (hv : StrsAt w av nv gv ov vf) (sk : ∀ j, j < nk → ((kf j).size : Int) ≤ 140737488355328) (sv : ∀ j, j < nv → ((vf j).size : Int) ≤ 140737488355328)
    (s1 : (key.size : Int) ≤ 140737488355328) (s2 : (value.size : Int) ≤ 140737488355328) (s3 : (more.size : Int) ≤ 140737488355328) :
    Calls Yba.prog 3 #[.slice ak nk ck, .slice av nv cv, .string key, .string value, .string more] w fun e w' => LawPost w e w' := by
  obtain ⟨i0, hi, hz0, hz1, hz2⟩ := info_parts Yba.info9
  go_enter Yba.func3, Yba.ntmps3
  by_cases hbig : (4096 : Int) < (nk : Int)
  · go_wp2
    go_ret
    exact ⟨rfl, Below.refl _ _⟩
  by_cases ht0 : (1048576 : Int) < (key.size : Int) + (value.size : Int) + (more.size : Int)
  · go_wp2
    go_ret
    exact ⟨rfl, Below.refl _ _⟩
  go_wp2
  go_loop [11, 12] (fun t i => ∃ (q tt : Nat), q ≤ nk ∧ i = .int .i64 q ∧ t = .int .i64 tt ∧ Hid (tt = key.size + value.size + more.size + wt kf q) ∧ (tt : Int) ≤ 1048576) (fun _ i => nk - (intOf i).toNat)
  case atStart => exact ⟨0, key.size + value.size + more.size, Nat.zero_le _, rfl, by go_num, rfl, by omega⟩
  case round =>
    obtain ⟨q, tt, hq, rfl, rfl, HT, htt⟩ := hrel
    by_cases hlt : q < nk
    · have e1 := hk.addr (by omega)
      have c1 := hk.c q hlt
      have z1 := sk q hlt
      rw [e1]
      clear e1
      by_cases hov : (1048576 : Int) < (tt : Int) + ((kf q).size : Int)
      · go_wp2
        go_ret
        exact ⟨rfl, Below.refl _ _⟩
      · go_wp2
        go_round
        case rel => exact ⟨q + 1, tt + (kf q).size, by omega, by go_num, by go_num, by show _ = _; rw [HT.out]; simp only [wt]; omega, by omega⟩
        case measure => simp [intOf]; omega
    · obtain rfl : nk = q := by omega
      go_wp2
      go_loop [11, 13] (fun t i => ∃ (q t2 : Nat), q ≤ nv ∧ i = .int .i64 q ∧ t = .int .i64 t2 ∧ Hid (t2 = tt + wt vf q) ∧ (t2 : Int) ≤ 1048576) (fun _ i => nv - (intOf i).toNat)
      case atStart => exact ⟨0, tt, Nat.zero_le _, rfl, rfl, rfl, htt⟩
      case round =>
        obtain ⟨q, t2, hq2, rfl, rfl, HT2, ht2⟩ := hrel
        by_cases hlt : q < nv
        · have e1 := hv.addr (by omega)
          have c1 := hv.c q hlt
          have z1 := sv q hlt
          rw [e1]
          clear e1
          by_cases hov : (1048576 : Int) < (t2 : Int) + ((vf q).size : Int)
          · go_wp2
            go_ret
            exact ⟨rfl, Below.refl _ _⟩
          · go_wp2
            go_round
            case rel => exact ⟨q + 1, t2 + (vf q).size, by omega, by go_num, by go_num, by show _ = _; rw [HT2.out]; simp only [wt]; omega, by omega⟩
            case measure => simp [intOf]; omega
        · obtain rfl : nv = q := by omega
          have hsum : wt kf nk + wt (vD nv vf) nk ≤ 1048576 := by
            have h1 := wt_vD nv vf nk
            have h2 := HT.out
            have h3 := HT2.out
            omega
          have HB : Hid (key.size + value.size + more.size ≤ 1048576) := by
            have h2 := HT.out
            show _ ≤ _
            omega
          go_wp2_with fail
          refine (build_any ak av nk ck nv cv gk ok gv ov kf vf _ (by omega) hnv hk hv hsum).mono ?_
          rintro e w1 ⟨vk, vv, n, K, V, rfl, hn, htwo, hord, hwt, hb1⟩
          obtain ⟨a1, c1, g1, rfl, ha1⟩ := own_form htwo.k
          obtain ⟨a2, c2, g2, rfl, ha2⟩ := own_form htwo.v
          have hS1 := strs_own htwo.k ha1
          have hS2 := strs_own htwo.v ha2
          have HORD : Hid _ := hord
          have HWT : Hid _ := hwt
          have hle := encTo_le K V n hwt
          have zk : ∀ j, j < n → (K j).size ≤ 1048576 := fun j hj => by have := wt_le K hj; omega
          have zv : ∀ j, j < n → (V j).size ≤ 1048576 := fun j hj => by have := wt_le V hj; omega
          have HZK : Hid _ := zk
          have HZV : Hid _ := zv
          have HLE : Hid _ := hle
          clear hord hwt htwo zk zv hle
          have hsz1 := hb1.size
          simp only []
          go_wp2_with fail
          refine (enc_any a1 a2 n c1 c2 g1 0 g2 0 K V _ (by omega) hS1 hS2 (fun j hj => by have := HZK.out j hj; omega) (fun j hj => by have := HZV.out j hj; omega) (by have h1 := HLE.out; have h2 := HWT.out; omega)).mono ?_
          rintro e w2 ⟨rfl, hb2⟩
          have hsz2 := hb2.size
          have hS1' := hS1.later hb2 hS1.lt
          have hS2' := hS2.later hb2 hS2.lt
          obtain ⟨c, hc⟩ : ∃ c : ByteArray, c = ⟨(encTo K V n).toArray⟩ := ⟨_, rfl⟩
          rw [← hc]
          have hbc : bs c = encE (ents K V n) := by rw [hc, ← encTo_ents]
          have hcs : (c.size : Int) ≤ 1073741824 := by
            have h1 := HLE.out
            have h2 := HWT.out
            have h3 : c.size = (encTo K V n).length := by rw [hc]; rfl
            omega
          have HBC : Hid _ := hbc
          clear hbc hc
          simp only []
          go_wp2_with fail
          refine (with_any c key value more (ents K V n) _ hcs HBC.out (fun e he => ?z1) (by have := HB.out; omega) (by have := HB.out; omega) (by have := HB.out; omega)).mono ?_
          case z1 =>
            obtain ⟨j, hj, rfl⟩ := ents_mem he
            have h1 := HZK.out j hj
            have h2 := HZV.out j hj
            simp
            omega
          rintro e w3 ⟨⟨pre, mid, post, s, hpl, rfl, hs⟩, hb3⟩
          have HPL : Hid _ := hpl
          have HS : Hid _ := hs
          clear hpl hs
          have hsz3 := hb3.size
          have hT1 := hS1'.later hb3 hS1'.lt
          have hT2 := hS2'.later hb3 hS2'.lt
          have hbel3 : Below w.heap.size w w3 := hb1.trans ((hb2.mono hsz1).trans (hb3.mono (by omega)))
          clear hb1 hb2 hb3 hS1 hS2 hS1' hS2'
          simp only []
          have hadd : ∀ x : World, (Op.stringOp .add value more).run Yba.prog x = .ok (.string (value ++ more)) x := fun x => run_string_add_sum (P := Yba.prog) x value more (by have := HB.out; omega)
          obtain ⟨nvb, hnvb⟩ : ∃ nvb, value ++ more = nvb := ⟨_, rfl⟩
          simp only [hnvb] at hadd
          have HNV : Hid (bs value ++ bs more = bs nvb) := by rw [← hnvb]; exact cat_bs _ _
          have hnz : (nvb.size : Int) ≤ 1048576 := by rw [← hnvb, cat_size]; have := HB.out; omega
          clear hnvb
          go_wp2
          go_loopw [19, 20, 21, 22] (fun ek ev p i wr => ∃ (q : Nat) (pb : Bool), q ≤ n ∧ i = .int .i64 q ∧ p = .bool pb ∧ LR w3 wr K V (bs key) (bs nvb) ek ev pb q) (fun _ _ _ i _ => n - (intOf i).toNat)
          case atStart => exact ⟨0, false, Nat.zero_le _, rfl, rfl, ⟨0, fun _ => ⟨#[]⟩, fun _ => ⟨#[]⟩, by omega, two_nil _ _ _ _, rfl, rfl, Below.refl _ _⟩⟩
          case round =>
            obtain ⟨q, pb, hqn, rfl, rfl, hlr⟩ := hrel
            by_cases hlt : q < n
            · have e1 := ha1 (by omega)
              have e2 := ha2 (by omega)
              subst e1 e2
              have ck : ∀ x, Below w3.heap.size w3 x → x.cell? ⟨g1, q, none⟩ = some (.string (K q)) := fun x hx => by
                have := (hx.cell (p := ⟨g1, 0 + q, none⟩) (hT1.lt (by omega))).trans (hT1.c q hlt)
                rwa [Nat.zero_add] at this
              have cv : ∀ x, Below w3.heap.size w3 x → x.cell? ⟨g2, q, none⟩ = some (.string (V q)) := fun x hx => by
                have := (hx.cell (p := ⟨g2, 0 + q, none⟩) (hT2.lt (by omega))).trans (hT2.c q hlt)
                rwa [Nat.zero_add] at this
              have HLR : Hid _ := hlr
              obtain ⟨m, K', V', hm, htwo, hents, hpb, hbel⟩ := hlr
              have HE : Hid _ := hents
              have HPB : Hid _ := hpb
              clear hents hpb
              have hszr := hbel.size
              have ck0 := ck _ hbel
              by_cases he : bs (K q) = bs key
              · have x1 := eq_true he
                have HK : Hid _ := lr_eq HLR.out he
                clear he
                go_wp2
                go_roundw
                case rel => exact ⟨q + 1, pb, by omega, by go_num, rfl, HK.out⟩
                case measure => simp [intOf]; omega
              · have x1 := eq_false he
                have HNE : Hid _ := he
                clear he
                cases pb with
                | true =>
                  go_wp2_with (at_builtin; refine wpList_append_own_at _ rfl (.tmp 115) (.tmp 120) 22 rfl w3.heap.size 9 i0 (.string ⟨#[]⟩) 1 16 Yba.underlying22 hi hz0 hz1 hz2 rfl (by decide) _ _ _ rfl (htwo.k.alloc _) ⟨wr.heap.size, 0, none⟩ 1 1 [.string (K q)] rfl rfl (cell_one_new _ _ _) (by intro u hu; simp at hu; subst hu; rfl) ?ca3 ?ca4 ?ca5 ?_)
                  case ca3 => unfold maxLen; omega
                  case ca4 => omega
                  case ca5 => first | omega | (simp; omega)
                  intro va1 wa1 oa1 gra1 _ ta1
                  have kva := keep_v (htwo.v.alloc _) gra1 htwo.ap
                  have ba1 : Below w3.heap.size w3 wa1 := (hbel.alloc (by omega) _).grown gra1 (by simp; omega) (fun q hq => (htwo.k.lt q hq).1)
                  have za1 := ba1.size
                  have cva := cv _ ba1
                  go_wp2_with (at_builtin; refine wpList_append_own_at _ rfl (.tmp 122) (.tmp 127) 22 rfl w3.heap.size 9 i0 (.string ⟨#[]⟩) 1 16 Yba.underlying22 hi hz0 hz1 hz2 rfl (by decide) _ _ _ rfl (kva.alloc _) ⟨wa1.heap.size, 0, none⟩ 1 1 [.string (V q)] rfl rfl (cell_one_new _ _ _) (by intro u hu; simp at hu; subst hu; rfl) ?da3 ?da4 ?da5 ?_)
                  case da3 => unfold maxLen; omega
                  case da4 => omega
                  case da5 => first | omega | (simp; omega)
                  intro va2 wa2 oa2 gra2 _ ta2
                  have HPa : Hid _ := two_app htwo hbel (by omega) oa1 gra1 ta1 (by simp <;> omega) oa2 gra2 ta2 (by simp <;> omega)
                  clear oa1 gra1 ta1 oa2 gra2 ta2 kva ba1 za1 cva
                  go_wp2
                  go_roundw
                  case rel => exact ⟨q + 1, true, by omega, by go_num, rfl, lr_app hm HE.out HPB.out HNE.out (.inl rfl) HPa.out⟩
                  case measure => simp [intOf]; omega
                | false =>
                  by_cases hgt : bs key < bs (K q)
                  · have x2 := less_false (fun h : bs (K q) < bs key => absurd (List.lt_trans hgt h) (List.lt_irrefl _))
                    have HGT : Hid _ := hgt
                    clear hgt
                    by_cases hnv0 : bs nvb = []
                    · have x3 := empty_true hnv0
                      have HN0 : Hid _ := hnv0
                      clear hnv0
                      go_wp2_with (at_builtin; refine wpList_append_own_at _ rfl (.tmp 115) (.tmp 120) 22 rfl w3.heap.size 9 i0 (.string ⟨#[]⟩) 1 16 Yba.underlying22 hi hz0 hz1 hz2 rfl (by decide) _ _ _ rfl (htwo.k.alloc _) ⟨wr.heap.size, 0, none⟩ 1 1 [.string (K q)] rfl rfl (cell_one_new _ _ _) (by intro u hu; simp at hu; subst hu; rfl) ?ca3 ?ca4 ?ca5 ?_)
                      case ca3 => unfold maxLen; omega
                      case ca4 => omega
                      case ca5 => first | omega | (simp; omega)
                      intro va1 wa1 oa1 gra1 _ ta1
                      have kva := keep_v (htwo.v.alloc _) gra1 htwo.ap
                      have ba1 : Below w3.heap.size w3 wa1 := (hbel.alloc (by omega) _).grown gra1 (by simp; omega) (fun q hq => (htwo.k.lt q hq).1)
                      have za1 := ba1.size
                      have cva := cv _ ba1
                      go_wp2_with (at_builtin; refine wpList_append_own_at _ rfl (.tmp 122) (.tmp 127) 22 rfl w3.heap.size 9 i0 (.string ⟨#[]⟩) 1 16 Yba.underlying22 hi hz0 hz1 hz2 rfl (by decide) _ _ _ rfl (kva.alloc _) ⟨wa1.heap.size, 0, none⟩ 1 1 [.string (V q)] rfl rfl (cell_one_new _ _ _) (by intro u hu; simp at hu; subst hu; rfl) ?da3 ?da4 ?da5 ?_)
                      case da3 => unfold maxLen; omega
                      case da4 => omega
                      case da5 => first | omega | (simp; omega)
                      intro va2 wa2 oa2 gra2 _ ta2
                      have HPa : Hid _ := two_app htwo hbel (by omega) oa1 gra1 ta1 (by simp <;> omega) oa2 gra2 ta2 (by simp <;> omega)
                      clear oa1 gra1 ta1 oa2 gra2 ta2 kva ba1 za1 cva
                      go_wp2
                      go_roundw
                      case rel => exact ⟨q + 1, true, by omega, by go_num, rfl, lr_ins0 hm HE.out HPB.out HNE.out HGT.out HN0.out HPa.out⟩
                      case measure => simp [intOf]; omega
                    · have x3 := empty_false hnv0
                      have HN0 : Hid _ := hnv0
                      clear hnv0
                      go_wp2_with (at_builtin; refine wpList_append_own_at _ rfl (.tmp 107) (.tmp 109) 22 rfl w3.heap.size 9 i0 (.string ⟨#[]⟩) 1 16 Yba.underlying22 hi hz0 hz1 hz2 rfl (by decide) _ _ _ rfl (htwo.k.alloc _) ⟨wr.heap.size, 0, none⟩ 1 1 [.string key] rfl rfl (cell_one_new _ _ _) (by intro u hu; simp at hu; subst hu; rfl) ?ca3 ?ca4 ?ca5 ?_)
                      case ca3 => unfold maxLen; omega
                      case ca4 => omega
                      case ca5 => first | omega | (simp; omega)
                      intro va1 wa1 oa1 gra1 _ ta1
                      have kva := keep_v (htwo.v.alloc _) gra1 htwo.ap
                      have ba1 : Below w3.heap.size w3 wa1 := (hbel.alloc (by omega) _).grown gra1 (by simp; omega) (fun q hq => (htwo.k.lt q hq).1)
                      have za1 := ba1.size
                      go_wp2_with (at_builtin; refine wpList_append_own_at _ rfl (.tmp 111) (.tmp 113) 22 rfl w3.heap.size 9 i0 (.string ⟨#[]⟩) 1 16 Yba.underlying22 hi hz0 hz1 hz2 rfl (by decide) _ _ _ rfl (kva.alloc _) ⟨wa1.heap.size, 0, none⟩ 1 1 [.string nvb] rfl rfl (cell_one_new _ _ _) (by intro u hu; simp at hu; subst hu; rfl) ?da3 ?da4 ?da5 ?_)
                      case da3 => unfold maxLen; omega
                      case da4 => omega
                      case da5 => first | omega | (simp; omega)
                      intro va2 wa2 oa2 gra2 _ ta2
                      have HPa : Hid _ := two_app htwo hbel (by omega) oa1 gra1 ta1 (by simp <;> omega) oa2 gra2 ta2 (by simp <;> omega)
                      clear oa1 gra1 ta1 oa2 gra2 ta2 kva ba1 za1
                      obtain ⟨two2, bel2⟩ := HPa.out
                      clear HPa
                      have hsz2b := bel2.size
                      have ck2 := ck _ bel2
                      go_wp2_with (at_builtin; refine wpList_append_own_at _ rfl (.tmp 115) (.tmp 120) 22 rfl w3.heap.size 9 i0 (.string ⟨#[]⟩) 1 16 Yba.underlying22 hi hz0 hz1 hz2 rfl (by decide) _ _ _ rfl (two2.k.alloc _) ⟨wa2.heap.size, 0, none⟩ 1 1 [.string (K q)] rfl rfl (cell_one_new _ _ _) (by intro u hu; simp at hu; subst hu; rfl) ?cb3 ?cb4 ?cb5 ?_)
                      case cb3 => unfold maxLen; omega
                      case cb4 => omega
                      case cb5 => first | omega | (simp; omega)
                      intro vb1 wb1 ob1 grb1 _ tb1
                      have kvb := keep_v (two2.v.alloc _) grb1 two2.ap
                      have bb1 : Below w3.heap.size w3 wb1 := (bel2.alloc (by omega) _).grown grb1 (by simp; omega) (fun q hq => (two2.k.lt q hq).1)
                      have zb1 := bb1.size
                      have cvb := cv _ bb1
                      go_wp2_with (at_builtin; refine wpList_append_own_at _ rfl (.tmp 122) (.tmp 127) 22 rfl w3.heap.size 9 i0 (.string ⟨#[]⟩) 1 16 Yba.underlying22 hi hz0 hz1 hz2 rfl (by decide) _ _ _ rfl (kvb.alloc _) ⟨wb1.heap.size, 0, none⟩ 1 1 [.string (V q)] rfl rfl (cell_one_new _ _ _) (by intro u hu; simp at hu; subst hu; rfl) ?db3 ?db4 ?db5 ?_)
                      case db3 => unfold maxLen; omega
                      case db4 => omega
                      case db5 => first | omega | (simp; omega)
                      intro vb2 wb2 ob2 grb2 _ tb2
                      have HPb : Hid _ := two_app two2 bel2 (by omega) ob1 grb1 tb1 (by simp <;> omega) ob2 grb2 tb2 (by simp <;> omega)
                      clear ob1 grb1 tb1 ob2 grb2 tb2 kvb bb1 zb1 cvb
                      go_wp2
                      go_roundw
                      case rel => exact ⟨q + 1, true, by omega, by go_num, rfl, lr_ins1 hm HE.out HPB.out HNE.out HGT.out HN0.out HPb.out⟩
                      case measure => simp [intOf]; omega
                  · have x2 := less_true (bs_lt_of hgt (fun e => HNE.out e.symm))
                    have HGT : Hid _ := hgt
                    clear hgt
                    go_wp2_with (at_builtin; refine wpList_append_own_at _ rfl (.tmp 115) (.tmp 120) 22 rfl w3.heap.size 9 i0 (.string ⟨#[]⟩) 1 16 Yba.underlying22 hi hz0 hz1 hz2 rfl (by decide) _ _ _ rfl (htwo.k.alloc _) ⟨wr.heap.size, 0, none⟩ 1 1 [.string (K q)] rfl rfl (cell_one_new _ _ _) (by intro u hu; simp at hu; subst hu; rfl) ?ca3 ?ca4 ?ca5 ?_)
                    case ca3 => unfold maxLen; omega
                    case ca4 => omega
                    case ca5 => first | omega | (simp; omega)
                    intro va1 wa1 oa1 gra1 _ ta1
                    have kva := keep_v (htwo.v.alloc _) gra1 htwo.ap
                    have ba1 : Below w3.heap.size w3 wa1 := (hbel.alloc (by omega) _).grown gra1 (by simp; omega) (fun q hq => (htwo.k.lt q hq).1)
                    have za1 := ba1.size
                    have cva := cv _ ba1
                    go_wp2_with (at_builtin; refine wpList_append_own_at _ rfl (.tmp 122) (.tmp 127) 22 rfl w3.heap.size 9 i0 (.string ⟨#[]⟩) 1 16 Yba.underlying22 hi hz0 hz1 hz2 rfl (by decide) _ _ _ rfl (kva.alloc _) ⟨wa1.heap.size, 0, none⟩ 1 1 [.string (V q)] rfl rfl (cell_one_new _ _ _) (by intro u hu; simp at hu; subst hu; rfl) ?da3 ?da4 ?da5 ?_)
                    case da3 => unfold maxLen; omega
                    case da4 => omega
                    case da5 => first | omega | (simp; omega)
                    intro va2 wa2 oa2 gra2 _ ta2
                    have HPa : Hid _ := two_app htwo hbel (by omega) oa1 gra1 ta1 (by simp <;> omega) oa2 gra2 ta2 (by simp <;> omega)
                    clear oa1 gra1 ta1 oa2 gra2 ta2 kva ba1 za1 cva
                    go_wp2
                    go_roundw
                    case rel => exact ⟨q + 1, false, by omega, by go_num, rfl, lr_app hm HE.out HPB.out HNE.out (.inr HGT.out) HPa.out⟩
                    case measure => simp [intOf]; omega
            · obtain rfl : n = q := by omega
              obtain ⟨m, K', V', hm, htwo, hents, hpb, hbel⟩ := hlr
              have HE : Hid _ := hents
              have HPB : Hid _ := hpb
              clear hents hpb
              have hszr := hbel.size
              cases pb with
              | true =>
                have HF : Hid _ := fin_true (key := bs key) (nv := bs nvb) HE.out HPB.out
                obtain ⟨y1, y2, y3⟩ := fin_ok HORD.out HPL.out HF.out HZK.out HZV.out (by have := HB.out; omega) hnz
                have HY1 : Hid _ := y1
                have HY2 : Hid _ := y2
                have HY3 : Hid _ := y3
                clear y1 y2 y3
                obtain ⟨f1, d1, h1, rfl, hf1⟩ := own_form htwo.k
                obtain ⟨f2, d2, h2, rfl, hf2⟩ := own_form htwo.v
                have hU1 := strs_own htwo.k hf1
                have hU2 := strs_own htwo.v hf2
                clear htwo
                go_wp2_with fail
                refine (enc_any f1 f2 m d1 d2 h1 0 h2 0 K' V' _ (by omega) hU1 hU2 (fun j hj => by have := (HY1.out j hj).1; omega) (fun j hj => by have := (HY1.out j hj).2; omega) (by have h1 := HLE.out; have h2 := HWT.out; have h3 := HY3.out; omega)).mono ?_
                rintro e w6 ⟨rfl, hb6⟩
                obtain ⟨r, hr⟩ : ∃ r : ByteArray, r = ⟨(encTo K' V' m).toArray⟩ := ⟨_, rfl⟩
                rw [← hr]
                have hsr : bs s = bs r := by rw [HS.out, HNV.out, hr]; exact HY2.out.symm
                have x9 := eq_true hsr
                clear hr hsr
                simp only []
                go_wp2
                go_ret
                exact ⟨rfl, hbel3.trans ((hbel.mono (by omega)).trans (hb6.mono (by omega)))⟩
              | false =>
                by_cases hnv0 : bs nvb = []
                · have x3 := empty_true hnv0
                  have HF : Hid _ := fin_none (key := bs key) (nv := bs nvb) HE.out HPB.out hnv0
                  clear hnv0
                  obtain ⟨y1, y2, y3⟩ := fin_ok HORD.out HPL.out HF.out HZK.out HZV.out (by have := HB.out; omega) hnz
                  have HY1 : Hid _ := y1
                  have HY2 : Hid _ := y2
                  have HY3 : Hid _ := y3
                  clear y1 y2 y3
                  obtain ⟨f1, d1, h1, rfl, hf1⟩ := own_form htwo.k
                  obtain ⟨f2, d2, h2, rfl, hf2⟩ := own_form htwo.v
                  have hU1 := strs_own htwo.k hf1
                  have hU2 := strs_own htwo.v hf2
                  clear htwo
                  go_wp2_with fail
                  refine (enc_any f1 f2 m d1 d2 h1 0 h2 0 K' V' _ (by omega) hU1 hU2 (fun j hj => by have := (HY1.out j hj).1; omega) (fun j hj => by have := (HY1.out j hj).2; omega) (by have h1 := HLE.out; have h2 := HWT.out; have h3 := HY3.out; omega)).mono ?_
                  rintro e w6 ⟨rfl, hb6⟩
                  obtain ⟨r, hr⟩ : ∃ r : ByteArray, r = ⟨(encTo K' V' m).toArray⟩ := ⟨_, rfl⟩
                  rw [← hr]
                  have hsr : bs s = bs r := by rw [HS.out, HNV.out, hr]; exact HY2.out.symm
                  have x9 := eq_true hsr
                  clear hr hsr
                  simp only []
                  go_wp2
                  go_ret
                  exact ⟨rfl, hbel3.trans ((hbel.mono (by omega)).trans (hb6.mono (by omega)))⟩
                · have x3 := empty_false hnv0
                  have HF : Hid _ := fin_some (key := key) (nv := nvb) HE.out HPB.out hnv0
                  clear hnv0
                  go_wp2_with (at_builtin; refine wpList_append_own_at _ rfl (.tmp 135) (.tmp 137) 22 rfl w3.heap.size 9 i0 (.string ⟨#[]⟩) 1 16 Yba.underlying22 hi hz0 hz1 hz2 rfl (by decide) _ _ _ rfl (htwo.k.alloc _) ⟨wr.heap.size, 0, none⟩ 1 1 [.string key] rfl rfl (cell_one_new _ _ _) (by intro u hu; simp at hu; subst hu; rfl) ?ca3 ?ca4 ?ca5 ?_)
                  case ca3 => unfold maxLen; omega
                  case ca4 => omega
                  case ca5 => first | omega | (simp; omega)
                  intro va1 wa1 oa1 gra1 _ ta1
                  have kva := keep_v (htwo.v.alloc _) gra1 htwo.ap
                  have ba1 : Below w3.heap.size w3 wa1 := (hbel.alloc (by omega) _).grown gra1 (by simp; omega) (fun q hq => (htwo.k.lt q hq).1)
                  have za1 := ba1.size
                  go_wp2_with (at_builtin; refine wpList_append_own_at _ rfl (.tmp 139) (.tmp 141) 22 rfl w3.heap.size 9 i0 (.string ⟨#[]⟩) 1 16 Yba.underlying22 hi hz0 hz1 hz2 rfl (by decide) _ _ _ rfl (kva.alloc _) ⟨wa1.heap.size, 0, none⟩ 1 1 [.string nvb] rfl rfl (cell_one_new _ _ _) (by intro u hu; simp at hu; subst hu; rfl) ?da3 ?da4 ?da5 ?_)
                  case da3 => unfold maxLen; omega
                  case da4 => omega
                  case da5 => first | omega | (simp; omega)
                  intro va2 wa2 oa2 gra2 _ ta2
                  have HPa : Hid _ := two_app htwo hbel (by omega) oa1 gra1 ta1 (by simp <;> omega) oa2 gra2 ta2 (by simp <;> omega)
                  clear oa1 gra1 ta1 oa2 gra2 ta2 kva ba1 za1
                  obtain ⟨two2, bel2⟩ := HPa.out
                  clear HPa
                  have hsz2b := bel2.size
                  obtain ⟨m2, K2, V2, hm2, two3, HF2⟩ : ∃ m2 K2 V2, m2 ≤ 2 * n + 1 ∧ Two wa2 w3.heap.size va1 va2 m2 K2 V2 ∧ Hid (ents K2 V2 m2 = fin (bs key) (bs nvb) (lp K V (bs key) (bs nvb) n)) := ⟨_, _, _, by omega, two2, HF⟩
                  clear HF
                  obtain ⟨y1, y2, y3⟩ := fin_ok HORD.out HPL.out HF2.out HZK.out HZV.out (by have := HB.out; omega) hnz
                  have HY1 : Hid _ := y1
                  have HY2 : Hid _ := y2
                  have HY3 : Hid _ := y3
                  clear y1 y2 y3
                  obtain ⟨f1, d1, h1, rfl, hf1⟩ := own_form two3.k
                  obtain ⟨f2, d2, h2, rfl, hf2⟩ := own_form two3.v
                  have hU1 := strs_own two3.k hf1
                  have hU2 := strs_own two3.v hf2
                  clear htwo two2 two3
                  go_wp2_with fail
                  refine (enc_any f1 f2 m2 d1 d2 h1 0 h2 0 K2 V2 _ (by omega) hU1 hU2 (fun j hj => by have := (HY1.out j hj).1; omega) (fun j hj => by have := (HY1.out j hj).2; omega) (by have h1 := HLE.out; have h2 := HWT.out; have h3 := HY3.out; omega)).mono ?_
                  rintro e w6 ⟨rfl, hb6⟩
                  obtain ⟨r, hr⟩ : ∃ r : ByteArray, r = ⟨(encTo K2 V2 m2).toArray⟩ := ⟨_, rfl⟩
                  rw [← hr]
                  have hsr : bs s = bs r := by rw [HS.out, HNV.out, hr]; exact HY2.out.symm
                  have x9 := eq_true hsr
                  clear hr hsr
                  simp only []
                  go_wp2
                  go_ret
                  exact ⟨rfl, hbel3.trans ((bel2.mono (by omega)).trans (hb6.mono (by omega)))⟩
end Go.Proofs.Ybulkdnrm
