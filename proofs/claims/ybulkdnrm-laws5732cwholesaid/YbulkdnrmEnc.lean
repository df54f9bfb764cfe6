import Derived.Test.YbulkdnrmLen
import Derived.Laws.IdiomStrings
namespace Go.Proofs.Ybulkdnrm
open Go.ChangeShapes Go.WideShapes Go.ChangeAt Go.RowKit
open Go.Lib (uvarint byteCells strCells)
set_option linter.unusedSimpArgs false
set_option linter.unusedVariables false

/-- one entry's bytes -/
def enc1 (k v : Bs) : Bs := uvarint k.length ++ (k ++ (uvarint v.length ++ v))
/-- the first n entries' bytes -/
def encTo (K V : Nat → ByteArray) : Nat → Bs
  | 0 => []
  | n + 1 => encTo K V n ++ enc1 (bs (K n)) (bs (V n))
theorem encTo_mono (K V : Nat → ByteArray) {k n : Nat} (h : k ≤ n) : (encTo K V k).length ≤ (encTo K V n).length := by
  induction n with
  | zero => have : k = 0 := by omega
            subst this; exact Nat.le_refl _
  | succ n ih =>
    by_cases hk : k = n + 1
    · subst hk; exact Nat.le_refl _
    · have := ih (by omega)
      simp only [encTo, List.length_append]; omega
theorem strCells_eq (s : ByteArray) : strCells s = byteCells (bs s) := rfl

/-- a slice of texts that lies in w -/
structure StrsAt (w : World) (av : Option Addr) (n g o : Nat) (ts : Nat → ByteArray) : Prop where
  addr : 0 < n → av = some ⟨g, o, none⟩
  lt : 0 < n → g < w.heap.size
  c : ∀ j, j < n → w.cell? ⟨g, o + j, none⟩ = some (.string (ts j))
theorem StrsAt.later {w w' : World} {av : Option Addr} {n g o B : Nat} {ts : Nat → ByteArray} (h : StrsAt w av n g o ts) (hb : Below B w w') (hB : 0 < n → g < B) : StrsAt w' av n g o ts :=
  ⟨h.addr, fun hp => Nat.lt_of_lt_of_le (h.lt hp) hb.size, fun j hj => (hb.cell (p := ⟨g, o + j, none⟩) (hB (by omega))).trans (h.c j hj)⟩

/-- 'string(b)' of a row of the call's own -/
theorem conv_own {w : World} {B n : Nat} {v : Value} {l : Bs} (hl : l.length = n) (h : w.ownsRow B 5 1 v n (byteCells l)) : (convert 29 9 v).run Yba.prog w = .ok (.string ⟨l.toArray⟩) w := by
  rcases h.2 with ⟨rfl, h0⟩ | ⟨g, cap, cur, rfl, hb, hg, hn, _⟩
  · have : l = [] := List.eq_nil_of_length_eq_zero (by omega)
    subst this
    rw [run_convert_bytes_string w 29 9 5 none 0 0 Yba.underlying29 Yba.underlying5 Yba.underlying9]
    rfl
  · subst hl
    refine run_convert_bytes_back (P := Yba.prog) w 29 9 5 ⟨g, 0, none⟩ cap l Yba.underlying29 Yba.underlying5 Yba.underlying9 (fun j hj => ?_)
    rw [Addr.add_lit, Nat.zero_add, h.cellAt j (by omega)]
    simp [byteCells, hj]

set_option maxHeartbeats 1000000 in
theorem enc_any (ak av : Option Addr) (n ck cv gk ok gv ov : Nat) (K V : Nat → ByteArray) (w : World) (hn : (n : Int) ≤ 1048576) (hk : StrsAt w ak n gk ok K) (hv : StrsAt w av n gv ov V)
    (sk : ∀ j, j < n → ((K j).size : Int) ≤ 4194304) (sv : ∀ j, j < n → ((V j).size : Int) ≤ 4194304) (ht : ((encTo K V n).length : Int) ≤ 1073741824) :
    Calls Yba.prog 5 #[.slice ak n ck, .slice av n cv] w fun e w' => e = .returned (.string ⟨(encTo K V n).toArray⟩) ∧ Below w.heap.size w w' := by
  obtain ⟨i0, hi, hz0, hz1, hz2⟩ := info_parts Yba.info5
  go_enter Yba.func5, Yba.ntmps5
  go_wp2
  go_loopw [5, 6] (fun v i wr => ∃ k : Nat, k ≤ n ∧ i = .int .i64 k ∧ wr.ownsRow w.heap.size 5 1 v (encTo K V k).length (byteCells (encTo K V k)) ∧ Below w.heap.size w wr)
    (fun _ i _ => n - (intOf i).toNat)
  case atStart => exact ⟨0, Nat.zero_le _, rfl, World.ownsRow_nil _ _ _ _, Below.refl _ _⟩
  case round =>
    obtain ⟨k, hkn, rfl, hown, hbel⟩ := hrel
    have hsz := hbel.size
    by_cases hlt : k < n
    · have hm : (encTo K V k).length + (enc1 (bs (K k)) (bs (V k))).length ≤ (encTo K V n).length := by
        have := encTo_mono K V (show k + 1 ≤ n by omega)
        simpa [encTo] using this
      have hkk := sk k hlt
      have hvv := sv k hlt
      have e1 := hk.addr (by omega)
      have e2 := hv.addr (by omega)
      have q1 := (hbel.cell (p := ⟨gk, ok + k, none⟩) (hk.lt (by omega))).trans (hk.c k hlt)
      have q2 := (hbel.cell (p := ⟨gv, ov + k, none⟩) (hv.lt (by omega))).trans (hv.c k hlt)
      rw [e1, e2]
      clear e1 e2
      have hEl : (enc1 (bs (K k)) (bs (V k))).length = (uvarint (K k).size).length + ((K k).size + ((uvarint (V k).size).length + (V k).size)) := by simp [enc1]
      have hm' : (encTo K V k).length + (uvarint (K k).size).length + (K k).size + (uvarint (V k).size).length + (V k).size ≤ (encTo K V n).length := by omega
      clear hm hEl
      go_wp2_with fail
      refine (len_any w.heap.size (encTo K V k).length (K k).size _ _ _ hkk (by omega) hsz hown).mono ?_
      rintro e w1 ⟨v1, rfl, hown1, hb1⟩
      have hs1 := hb1.size
      have q1' := (hb1.cell (p := ⟨gk, ok + k, none⟩) (hk.lt (by omega))).trans q1
      simp only []
      go_wp2_with (at_builtin; refine Lib.wpList_append_own_string _ rfl _ _ 29 9 rfl w.heap.size 5 i0 Yba.underlying29 Yba.underlying9 hi hz0 hz1 hz2 _ _ _ rfl hown1 (K k) rfl ?c3 ?c4 ?c5 ?_)
      case c3 => unfold maxLen; omega
      case c4 => omega
      case c5 => omega
      intro v2 w2 hown2 hg2 _
      have hb2 : Below w.heap.size w1 w2 := (Below.refl _ _).grown hg2 (by omega) (fun q hq => (hown1.lt q hq).1)
      have hs2 := hb2.size
      have hb12 := hb1.trans hb2
      have q2' := (hb12.cell (p := ⟨gv, ov + k, none⟩) (hv.lt (by omega))).trans q2
      clear hown hown1 hg2
      go_wp2_with fail
      refine (len_any w.heap.size _ (V k).size _ _ _ hvv (by omega) (by omega) hown2).mono ?_
      rintro e w3 ⟨v3, rfl, hown3, hb3⟩
      have hs3 := hb3.size
      have q3' := (hb3.cell (p := ⟨gv, ov + k, none⟩) (hv.lt (by omega))).trans q2'
      simp only []
      go_wp2_with (at_builtin; refine Lib.wpList_append_own_string _ rfl _ _ 29 9 rfl w.heap.size 5 i0 Yba.underlying29 Yba.underlying9 hi hz0 hz1 hz2 _ _ _ rfl hown3 (V k) rfl ?d3 ?d4 ?d5 ?_)
      case d3 => unfold maxLen; omega
      case d4 => omega
      case d5 => omega
      intro v4 w4 hown4 hg4 _
      have hb4 : Below w.heap.size w w4 := (hbel.trans (hb12.trans hb3)).grown hg4 (by omega) (fun q hq => (hown3.lt q hq).1)
      have hown5 : w4.ownsRow w.heap.size 5 1 v4 (encTo K V (k + 1)).length (byteCells (encTo K V (k + 1))) := by
        have e1 : (encTo K V (k + 1)).length = (encTo K V k).length + (uvarint (K k).size).length + (K k).size + (uvarint (V k).size).length + (V k).size := by
          simp [encTo, enc1]; omega
        have e2 : byteCells (encTo K V (k + 1)) = byteCells (encTo K V k) ++ byteCells (uvarint (K k).size) ++ strCells (K k) ++ byteCells (uvarint (V k).size) ++ strCells (V k) := by
          simp [encTo, enc1, byteCells_append, strCells_eq]
        rw [e1, e2]
        simpa [List.append_assoc] using hown4
      have HO : Hid _ := hown5
      clear hown2 hown3 hown4 hown5 hg4
      go_wp2
      go_roundw
      case rel => exact ⟨k + 1, by omega, by go_num, HO.out, hb4⟩
      case measure => simp [intOf]; omega
    · obtain rfl : n = k := by omega
      have hcv := conv_own rfl hown
      go_wp2
      go_ret
      exact ⟨rfl, hbel⟩
end Go.Proofs.Ybulkdnrm
