import Derived.Test.YbulkdnpiBCallees
namespace Go.Proofs.Ybulkdnpi
open Go.ChangeShapes Go.WideShapes Go.ChangeAt Go.RowKit
set_option linter.unusedSimpArgs false

/-- one item: its kind, its integer, its float's bits, its bool -/
structure It where
  k : Int
  i : Int
  f : Nat
  b : Bool
def It.obj (t : It) : Value := objOf t.k t.i t.f t.b
def It.num (t : It) : Nat := numOf t.k t.i t.f
def It.is (t : It) : Bool := isNum t.k
def nums (its : Nat → It) (m : Nat) : List Value := (List.range m).map fun j => .float .f64 (its j).num
theorem nums_succ (its : Nat → It) (m : Nat) : nums its (m + 1) = nums its m ++ [.float .f64 (its m).num] := by simp [nums, List.range_succ]
theorem nums_length (its : Nat → It) (m : Nat) : (nums its m).length = m := by simp [nums]

theorem Yba.info28 : (Yba.prog.info? 28).map (fun i => (i.zero, i.size, i.bytes)) = some (some (.float .f64 0), 1, 8) := by kernel_rfl
theorem Yba.info26 : (Yba.prog.info? 26).map (fun i => (i.zero, i.size, i.bytes)) = some (some .nilIface, 1, 16) := by kernel_rfl

set_option maxHeartbeats 800000 in
theorem numbers_any (its : Nat → It) (m g2 B n : Nat) (v0 : Value) (xs : List Value) (w : World) (hn : n ≤ 1048576) (hm : m ≤ 1048576) (hg : g2 < B) (hB : B ≤ w.heap.size)
    (hown0 : w.ownsRow B 28 1 v0 n xs) (hobj : ∀ j, j < m → w.cell? ⟨g2, j, none⟩ = some (its j).obj) :
    Calls Yba.prog 10 #[v0, .slice (some ⟨g2, 0, none⟩) m m] w fun e w' => Below B w w' ∧
      (((∀ j, j < m → (its j).is = true) ∧ ∃ v', e = .returned (.tuple #[v', .bool true]) ∧ w'.ownsRow B 28 1 v' (n + m) (xs ++ nums its m) ∧ (v' = .slice none 0 0 ↔ v0 = .slice none 0 0 ∧ m = 0)) ∨
       ((∃ j, j < m ∧ (its j).is = false) ∧ e = .returned (.tuple #[.slice none 0 0, .bool false]))) := by
  obtain ⟨i0, hi, hz0, hz1, hz2⟩ := info_parts Yba.info28
  go_enter Yba.func10, Yba.ntmps10
  go_wp2
  go_loopw [0, 12] (fun v i wr => ∃ k : Nat, k ≤ m ∧ i = .int .i64 k ∧ wr.ownsRow B 28 1 v (n + k) (xs ++ nums its k) ∧ Below B w wr ∧ (v = .slice none 0 0 ↔ v0 = .slice none 0 0 ∧ k = 0) ∧ (∀ j, j < k → (its j).is = true))
    (fun _ i _ => m - (intOf i).toNat)
  case atStart => exact ⟨0, Nat.zero_le _, rfl, by simpa [nums] using hown0, Below.refl _ _, by simp, by omega⟩
  case round =>
    obtain ⟨k, hk, rfl, hown, hbel, hnil, hall⟩ := hrel
    by_cases hlt : k < m
    · have hc : wr.cell? ⟨g2, k, none⟩ = some (its k).obj := (hbel.cell (by exact hg)).trans (hobj k hlt)
      obtain ⟨o, ho⟩ : ∃ o, o = (its k).obj := ⟨_, rfl⟩
      rw [← ho] at hc
      have HO : Hid (o = (its k).obj) := ho
      clear ho hobj
      have HN : Hid _ := hnil
      have HA : Hid _ := hall
      clear hnil hall
      cases hnum : (its k).is
      · have C := fun wx => number_no (its k).k (its k).i (its k).f (its k).b wx hnum
        have HC : Hid (∀ wx, Calls Yba.prog 13 #[o] wx fun e w' => e = .returned (.tuple #[.float .f64 0, .bool false]) ∧ w' = wx) := by rw [HO.out]; exact C
        have HB : Hid ((its k).is = false) := hnum
        clear C hnum
        go_wp2_with (go_at_call 13; refine (HC.out _).mono ?_; rintro e w' ⟨rfl, rfl⟩)
        go_ret2
        exact ⟨hbel, .inr ⟨⟨k, hlt, HB.out⟩, rfl⟩⟩
      · have C := fun wx => number_yes (its k).k (its k).i (its k).f (its k).b wx hnum
        have HC : Hid (∀ wx, Calls Yba.prog 13 #[o] wx fun e w' => e = .returned (.tuple #[.float .f64 (its k).num, .bool true]) ∧ w' = wx) := by rw [HO.out]; exact C
        have HB : Hid ((its k).is = true) := hnum
        clear C hnum
        have hsz := hbel.size
        go_wp2_with (first | (go_at_call 13; refine (HC.out _).mono ?_; rintro e w' ⟨rfl, rfl⟩) | (at_builtin; refine wpList_append_own _ rfl _ _ 23 rfl B 28 i0 (.float .f64 0) 1 8 Yba.underlying23 hi hz0 hz1 hz2 rfl (by decide) _ _ _ rfl (hown.alloc _) ⟨w'.heap.size, 0, none⟩ 1 1 [.float .f64 (its k).num] rfl rfl ?c1 ?c2 ?c3 ?c4 ?c5 ?_))
        case c1 => exact cell_one_new _ _ _
        case c2 => intro u hu; simp at hu; subst hu; rfl
        case c3 => unfold maxLen; omega
        case c4 => omega
        case c5 => simp; omega
        intro v' w1 hown' hgrow hne
        have hbel' : Below B w w1 := (hbel.alloc (by omega) _).grown hgrow (by simp; omega) (fun q hq => (hown.lt q hq).1)
        have hown2 : w1.ownsRow B 28 1 v' (n + (k + 1)) (xs ++ nums its (k + 1)) := by rw [nums_succ]; exact hown'
        have HO' : Hid _ := hown2
        have HE : Hid _ := hne
        clear hown' hgrow hne hown2 hown
        go_wp2
        go_roundw
        case rel =>
          refine ⟨k + 1, by omega, by go_num, HO'.out, hbel', ⟨fun h => absurd h HE.out, fun h => by omega⟩, fun j hj => ?_⟩
          by_cases hjk : j < k
          · exact HA.out j hjk
          · rw [show j = k by omega]; exact HB.out
        case measure => simp [intOf]; omega
    · go_wp2
      go_ret2
      have : k = m := by omega
      subst this
      exact ⟨hbel, .inl ⟨hall, _, rfl, hown, hnil⟩⟩
end Go.Proofs.Ybulkdnpi
