import Derived.Test.YbulkdnrmBuild
namespace Go.Proofs.Ybulkdnrm
open Go.ChangeShapes Go.WideShapes Go.ChangeAt Go.RowKit
open Go.Lib (uvarint byteCells strCells)
set_option linter.unusedSimpArgs false
set_option linter.unusedVariables false

/-- the rows' entries -/
def ents (K V : Nat → ByteArray) (n : Nat) : List En := (List.range n).map fun j => (bs (K j), bs (V j))
theorem ents_succ (K V : Nat → ByteArray) (n : Nat) : ents K V (n + 1) = ents K V n ++ [(bs (K n), bs (V n))] := by simp [ents, List.range_succ]
theorem ents_length (K V : Nat → ByteArray) (n : Nat) : (ents K V n).length = n := by simp [ents]
theorem ents_snoc (K V : Nat → ByteArray) (n : Nat) (x y : ByteArray) : ents (snoc K n x) (snoc V n y) (n + 1) = ents K V n ++ [(bs x, bs y)] := by
  rw [ents_succ]
  congr 1
  · apply List.map_congr_left
    intro q hq
    have := List.mem_range.1 hq
    simp [snoc, this]
  · simp [snoc]
theorem encTo_ents (K V : Nat → ByteArray) : ∀ n, encTo K V n = encE (ents K V n)
  | 0 => rfl
  | n + 1 => by rw [encTo, encTo_ents K V n, ents_succ, encE_append]; simp [encE]
theorem ents_mem {K V : Nat → ByteArray} {n : Nat} {e : En} (h : e ∈ ents K V n) : ∃ j, j < n ∧ e = (bs (K j), bs (V j)) := by
  obtain ⟨j, hj, rfl⟩ := List.mem_map.1 h
  exact ⟨j, List.mem_range.1 hj, rfl⟩
theorem mem_ents (K V : Nat → ByteArray) {j n : Nat} (h : j < n) : (bs (K j), bs (V j)) ∈ ents K V n := List.mem_map.2 ⟨j, List.mem_range.2 h, rfl⟩

theorem enc1_le {k v : Bs} (hk : (k.length : Int) ≤ 4194304) (hv : (v.length : Int) ≤ 4194304) : (enc1 k v).length ≤ k.length + v.length + 20 := by
  rw [enc1_length]
  have h1 := Lib.uvarint_length64 (x := k.length) (by omega)
  have h2 := Lib.uvarint_length64 (x := v.length) (by omega)
  omega
theorem encTo_le (K V : Nat → ByteArray) : ∀ n, wt K n + wt V n ≤ 1048576 → (encTo K V n).length ≤ wt K n + wt V n + 20 * n
  | 0, _ => by simp [encTo]
  | n + 1, h => by
    simp only [wt] at h
    have ih := encTo_le K V n (by omega)
    have := enc1_le (k := bs (K n)) (v := bs (V n)) (by simp; omega) (by simp; omega)
    simp only [encTo, List.length_append, wt]
    simp at this
    omega

/-- the law's third loop -/
def insE (key nv : Bs) : List En := if nv = [] then [] else [(key, nv)]
theorem encE_insE (key nv : Bs) : encE (insE key nv) = insB key nv := by
  unfold insE insB
  split <;> simp [encE]
def stp (key nv : Bs) (p : Bool × List En) (e : En) : Bool × List En :=
  if e.1 = key then p else if p.1 = false ∧ key < e.1 then (true, p.2 ++ insE key nv ++ [e]) else (p.1, p.2 ++ [e])
def lp (K V : Nat → ByteArray) (key nv : Bs) (i : Nat) : Bool × List En := (ents K V i).foldl (stp key nv) (false, [])
theorem lp_succ (K V : Nat → ByteArray) (key nv : Bs) (i : Nat) : lp K V key nv (i + 1) = stp key nv (lp K V key nv i) (bs (K i), bs (V i)) := by
  simp [lp, ents_succ]
def fin (key nv : Bs) (p : Bool × List En) : List En := if p.1 = false then p.2 ++ insE key nv else p.2

theorem insE_length (key nv : Bs) : (insE key nv).length ≤ 1 := by unfold insE; split <;> simp
theorem lp_len (K V : Nat → ByteArray) (key nv : Bs) : ∀ i, (lp K V key nv i).2.length ≤ 2 * i
  | 0 => by simp [lp, ents]
  | i + 1 => by
    rw [lp_succ]
    have ih := lp_len K V key nv i
    have := insE_length key nv
    unfold stp
    split
    · omega
    · split
      · simp; omega
      · simp; omega

theorem fold_lo (key nv : Bs) : ∀ (l : List En) (acc : List En), (∀ e ∈ l, e.1 < key) → l.foldl (stp key nv) (false, acc) = (false, acc ++ l)
  | [], acc, _ => by simp
  | e :: l, acc, h => by
    have h1 := h e (by simp)
    have h2 : ¬ e.1 = key := fun he => by rw [he] at h1; exact absurd h1 (List.lt_irrefl _)
    have h3 : ¬ key < e.1 := fun hl => absurd (List.lt_trans hl h1) (List.lt_irrefl _)
    rw [List.foldl_cons, show stp key nv (false, acc) e = (false, acc ++ [e]) by simp [stp, h2, h3], fold_lo key nv l _ (fun x hx => h x (by simp [hx]))]
    simp
theorem fold_hi (key nv : Bs) : ∀ (l : List En) (acc : List En), (∀ e ∈ l, key < e.1) → l.foldl (stp key nv) (true, acc) = (true, acc ++ l)
  | [], acc, _ => by simp
  | e :: l, acc, h => by
    have h1 := h e (by simp)
    have h2 : ¬ e.1 = key := fun he => by rw [he] at h1; exact absurd h1 (List.lt_irrefl _)
    rw [List.foldl_cons, show stp key nv (true, acc) e = (true, acc ++ [e]) by simp [stp, h2], fold_hi key nv l _ (fun x hx => h x (by simp [hx]))]
    simp
theorem fold_mid (key nv v : Bs) (p : Bool × List En) : stp key nv p (key, v) = p := by simp [stp]
theorem fin_hi (key nv : Bs) (l acc : List En) (h : ∀ e ∈ l, key < e.1) : fin key nv (l.foldl (stp key nv) (false, acc)) = acc ++ (insE key nv ++ l) := by
  cases l with
  | nil => simp [fin]
  | cons e l =>
    have h1 := h e (by simp)
    have h2 : ¬ e.1 = key := fun he => by rw [he] at h1; exact absurd h1 (List.lt_irrefl _)
    rw [List.foldl_cons, show stp key nv (false, acc) e = (true, acc ++ insE key nv ++ [e]) by simp [stp, h2, h1], fold_hi key nv l _ (fun x hx => h x (by simp [hx]))]
    simp [fin]

theorem ents_sorted {K V : Nat → ByteArray} {n : Nat} (h : Ord K n) : (ents K V n).Pairwise (fun a b => a.1 < b.1) := by
  rw [List.pairwise_iff_getElem]
  intro i j hi hj hij
  rw [ents_length] at hi hj
  simp only [ents, List.getElem_map, List.getElem_range]
  exact h i j hij hj
theorem place_hi {E : List En} {key : Bs} {pre mid post : List En} (h : KeyPlace E key pre mid post) (hs : E.Pairwise (fun a b => a.1 < b.1)) : ∀ e ∈ post, key < e.1 := by
  have hw := h.whole
  subst hw
  have h1 := (List.pairwise_append.1 hs).2.1
  rcases h.md with rfl | ⟨v, rfl⟩
  · cases post with
    | nil => intro e he; cases he
    | cons x post =>
      have hx := h.hi rfl x (by simp)
      rw [List.nil_append] at h1
      have h2 := List.pairwise_cons.1 h1
      intro e he
      rcases List.mem_cons.1 he with rfl | he
      · exact hx
      · exact List.lt_trans hx (h2.1 e he)
  · intro e he
    exact (List.pairwise_append.1 h1).2.2 (key, v) (by simp) e he
theorem law_list {K V : Nat → ByteArray} {n : Nat} {key : Bs} {pre mid post : List En} (nv : Bs) (ho : Ord K n) (h : KeyPlace (ents K V n) key pre mid post) :
    fin key nv (lp K V key nv n) = pre ++ (insE key nv ++ post) := by
  have hhi := place_hi h (ents_sorted ho)
  unfold lp
  rw [h.whole, List.foldl_append, List.foldl_append, fold_lo _ _ _ _ h.lo]
  rcases h.md with rfl | ⟨v, rfl⟩
  · simpa using fin_hi key nv post pre hhi
  · rw [List.foldl_cons, List.foldl_nil, fold_mid]
    simpa using fin_hi key nv post pre hhi
end Go.Proofs.Ybulkdnrm
