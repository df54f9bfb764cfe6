import Derived.Test.YbulkdnqyRows
import Derived.Test.YbulkdnqyShelf
import Derived.Test.YbulkdnqyPlain
import Derived.WalkKit
import Derived.ProofKit
import Derived.OpenShut
import Derived.ShutString
import Derived.WalkLawsBesides
import Derived.Outline
import Derived.Below
import Derived.BigQuiet
import Derived.Deep.QuietTactic
import Derived.Deep.RegionHeld3
import Derived.Deep.Slices
import Derived.Deep.Strs
import Derived.Laws.CopyOwn
import Derived.Sort.OwnSorted
namespace Go.Proofs.Ybulkdnqy
open Go.ChangeShapes Go.WideShapes Go.ChangeAt Go.RowKit
open Plain
set_option linter.unusedSimpArgs false
set_option linter.unusedVariables false

/-- the bytes of a string -/
abbrev bs (s : ByteArray) : Bs := s.data.toList

theorem ret_bool {a b : Bool} (h : a = b) : Ending.returned (.bool a) = .returned (.bool b) := by rw [h]
theorem ret_int {k : IntKind} {a b : Int} (h : a = b) : Ending.returned (.int k a) = .returned (.int k b) := by rw [h]

/-- a scalar with its text -/
abbrev sc (s : ByteArray) : Value := .agg #[.int .i64 0, .string s, .string ⟨#[]⟩, .pointer none, .float .f64 0, .pointer none, .int .i64 0, .bool false]
abbrev scBlk (s : ByteArray) : Obj := .cells #[.int .i64 0, .string s, .string ⟨#[]⟩, .pointer none, .float .f64 0, .pointer none, .int .i64 0, .bool false] 33

theorem cl1_any (s p : ByteArray) (w : World) :
    Calls Yba.prog 12 #[.agg #[.int .i64 0, .string s, .string ⟨#[]⟩, .pointer none, .float .f64 0, .pointer none, .int .i64 0, .bool false], .string p] w fun e w' => e = .returned (.int .i64 (cf1 (bs p) (bs s))) ∧ w' = w.alloc (scBlk s) := by
  go_enter Yba.func12, Yba.ntmps12
  go_wp2_with (go_at_call 13; refine (Yba.strings_Compare _ _ _).mono ?_; rintro e w' ⟨rfl, rfl⟩)
  go_ret
  exact ⟨rfl, rfl⟩

theorem cl2_any (s p : ByteArray) (w : World) :
    Calls Yba.prog 14 #[.agg #[.int .i64 0, .string s, .string ⟨#[]⟩, .pointer none, .float .f64 0, .pointer none, .int .i64 0, .bool false], .string p] w fun e w' => e = .returned (.int .i64 (cf2 (bs p) (bs s))) ∧ w' = w.alloc (scBlk s) := by
  cases h : Lib.hasPrefix (bs s) (bs p)
  · go_enter Yba.func14, Yba.ntmps14
    go_wp2_with (first | (go_at_call 13; refine (Yba.strings_Compare _ _ _).mono ?_; rintro e w' ⟨rfl, rfl⟩) | (go_at_call 15; refine (Yba.strings_HasPrefix _ _ _).mono ?_; rintro e w' ⟨rfl, rfl⟩))
    go_ret
    exact ⟨ret_int (by simp [cf2, h]), rfl⟩
  · go_enter Yba.func14, Yba.ntmps14
    go_wp2_with (first | (go_at_call 13; refine (Yba.strings_Compare _ _ _).mono ?_; rintro e w' ⟨rfl, rfl⟩) | (go_at_call 15; refine (Yba.strings_HasPrefix _ _ _).mono ?_; rintro e w' ⟨rfl, rfl⟩))
    go_ret
    exact ⟨ret_int (by simp [cf2, h]), rfl⟩

theorem has_eq (k p : ByteArray) (h : p.size ≤ k.size) : ((k.extract 0 p.size).toList == p.toList) = Lib.hasPrefix (bs k) (bs p) := by
  rw [Bool.eq_iff_iff, beq_iff_eq]
  simp only [Lib.hasPrefix, List.isPrefixOf_iff_prefix]
  rw [Lib.extract_toList, ByteArray.toList_eq, List.prefix_iff_eq_take, List.drop_zero, Nat.sub_zero]
  have e : (bs p).length = p.size := by simp
  rw [e]
  exact eq_comm

theorem has_short (k p : ByteArray) (h : ¬ p.size ≤ k.size) : false = Lib.hasPrefix (bs k) (bs p) := by
  cases hh : Lib.hasPrefix (bs k) (bs p)
  · rfl
  · have := (List.isPrefixOf_iff_prefix.1 hh).length_le
    simp at this
    omega

theorem has_any (k p : ByteArray) (w : World) (hk : k.size ≤ maxLen) (hp : p.size ≤ maxLen) :
    Calls Yba.prog 7 #[.string k, .string p] w fun e w' => e = .returned (.bool (Lib.hasPrefix (bs k) (bs p))) ∧ w' = w := by
  unfold maxLen at hk hp
  by_cases h : p.size ≤ k.size
  · go_enter Yba.func7, Yba.ntmps7
    go_wp2
    go_ret
    exact ⟨ret_bool (has_eq k p h), rfl⟩
  · have hd : decide ((p.size : Int) ≤ (k.size : Int)) = false := decide_eq_false (by omega)
    go_enter Yba.func7, Yba.ntmps7
    go_wp2
    go_ret
    exact ⟨ret_bool (has_short k p h), rfl⟩

/-- a row of scalars that holds the texts ts, in w, at block g -/
structure ScAt (w : World) (g n : Nat) (ts : Nat → ByteArray) : Prop where
  c0 : ∀ j, j < n → w.cell? ⟨g, j * 8, none⟩ = some (.int .i64 0)
  c1 : ∀ j, j < n → w.cell? ⟨g, j * 8 + 1, none⟩ = some (.string (ts j))
  c2 : ∀ j, j < n → w.cell? ⟨g, j * 8 + 2, none⟩ = some (.string ⟨#[]⟩)
  c3 : ∀ j, j < n → w.cell? ⟨g, j * 8 + 3, none⟩ = some (.pointer none)
  c4 : ∀ j, j < n → w.cell? ⟨g, j * 8 + 4, none⟩ = some (.float .f64 0)
  c5 : ∀ j, j < n → w.cell? ⟨g, j * 8 + 5, none⟩ = some (.pointer none)
  c6 : ∀ j, j < n → w.cell? ⟨g, j * 8 + 6, none⟩ = some (.int .i64 0)
  c7 : ∀ j, j < n → w.cell? ⟨g, j * 8 + 7, none⟩ = some (.bool false)
theorem ScAt.later {w w' : World} {g n B : Nat} {ts : Nat → ByteArray} (h : ScAt w g n ts) (hb : Below B w w') (hg : g < B) : ScAt w' g n ts :=
  ⟨fun j hj => (hb.cell (p := ⟨g, j * 8, none⟩) hg).trans (h.c0 j hj), fun j hj => (hb.cell (p := ⟨g, j * 8 + 1, none⟩) hg).trans (h.c1 j hj), fun j hj => (hb.cell (p := ⟨g, j * 8 + 2, none⟩) hg).trans (h.c2 j hj), fun j hj => (hb.cell (p := ⟨g, j * 8 + 3, none⟩) hg).trans (h.c3 j hj),
   fun j hj => (hb.cell (p := ⟨g, j * 8 + 4, none⟩) hg).trans (h.c4 j hj), fun j hj => (hb.cell (p := ⟨g, j * 8 + 5, none⟩) hg).trans (h.c5 j hj), fun j hj => (hb.cell (p := ⟨g, j * 8 + 6, none⟩) hg).trans (h.c6 j hj), fun j hj => (hb.cell (p := ⟨g, j * 8 + 7, none⟩) hg).trans (h.c7 j hj)⟩

end Go.Proofs.Ybulkdnqy
