import Derived.Test.YbulkdntqLocks
import Derived.Conc.RwLone
import Derived.WalkKit
import Derived.ProofKit
import Derived.OpenShut
import Derived.ShutString
import Derived.WalkLawsBesides
import Derived.Outline
import Derived.Below
import Derived.Defers
import Derived.BigQuiet
import Derived.Deep.QuietTactic
import Derived.Deep.RegionHeld3
import Derived.Deep.Slices
namespace Go.Proofs.Ybulkdntq
open Go.ChangeShapes Go.WideShapes Go.ChangeAt Go.RowKit
open Go.RwLone
set_option linter.unusedSimpArgs false
set_option linter.unusedVariables false

theorem Yba.info26 : (Yba.prog.info? 26).map (fun i => (i.zero, i.size, i.bytes)) = some (some (.agg #[.int .i64 0, .bool false, .int .i64 0]), 3, 24) := by kernel_rfl

set_option maxHeartbeats 400000 in
/-- two segments that hold the same -/
theorem same_eq (n t : Int) (k : Bool) (w : World) :
    Calls Yba.prog 5 #[.agg #[.int .i64 n, .bool k, .int .i64 t], .agg #[.int .i64 n, .bool k, .int .i64 t]] w fun e w' => e = .returned (.bool true) ∧
      w' = (w.alloc (.cells #[.int .i64 n, .bool k, .int .i64 t] 26)).alloc (.cells #[.int .i64 n, .bool k, .int .i64 t] 25) := by
  go_enter Yba.func5, Yba.ntmps5
  go_wp2
  go_ret
  exact ⟨rfl, rfl⟩

theorem clone_nil (w : World) : Calls Yba.prog 8 #[.slice none 0 0] w fun e w' => e = .returned (.slice none 0 0) ∧ w' = w := by
  have heql := fun (wx : World) (a : Option Addr) (n c : Nat) => Lib.run_eql_slice_nil (P := Yba.prog) wx 23 26 a n c 0 0 Yba.underlying23
  go_enter Yba.func8, Yba.ntmps8
  go_wp2
  go_ret
  exact ⟨rfl, rfl⟩

set_option maxHeartbeats 400000 in
theorem clone_own (g n : Nat) (cs : List Value) (w : World) (hn : n ≤ 1048576) (hl : cs.length = n * 3) (hc : ∀ j u, cs[j]? = some u → w.cell? ⟨g, j, none⟩ = some u) (h1 : ∀ u ∈ cs, u.oneCell' = true) :
    Calls Yba.prog 8 #[.slice (some ⟨g, 0, none⟩) n n] w fun e w' => ∃ v', e = .returned v' ∧ w'.ownsRow w.heap.size 26 3 v' n cs ∧ v' ≠ .slice none 0 0 ∧ Below w.heap.size w w' := by
  have heql := fun (wx : World) (a : Option Addr) (n c : Nat) => Lib.run_eql_slice_nil (P := Yba.prog) wx 23 26 a n c 0 0 Yba.underlying23
  obtain ⟨i0, hi, hz0, hz1, hz2⟩ := info_parts Yba.info26
  go_enter Yba.func8, Yba.ntmps8
  have hown : (w.alloc (.cells #[] 26)).ownsRow w.heap.size 26 3 (.slice (some ⟨w.heap.size, 0, none⟩) 0 0) 0 [] := World.ownsRow_lit w #[] 0 (Nat.le_refl _) (by unfold maxLen; omega) rfl
  go_wp2_with (at_builtin; refine wpList_append_own _ rfl _ _ 23 rfl w.heap.size 26 i0 (.agg #[.int .i64 0, .bool false, .int .i64 0]) 3 24 Yba.underlying23 hi hz0 hz1 hz2 rfl (by decide) _ 0 [] rfl hown ⟨g, 0, none⟩ n n cs rfl hl ?c1 h1 ?c3 ?c4 ?c5 ?_)
  case c1 =>
    intro j u hj
    have h := hc j u hj
    have hlt : g < w.heap.size := World.block_lt_of_cell? _ _ h
    rw [Addr.add_lit, Nat.zero_add, ← h]
    exact World.cell?_of_block (w := w) (Below.heap_alloc w _ g hlt)
  case c3 => unfold maxLen; omega
  case c4 => omega
  case c5 => simp
  intro v' w1 hown' hgrow hne
  go_wp2
  go_ret
  refine ⟨_, rfl, by simpa using hown', by simpa using hne, ?_⟩
  exact ((Below.refl _ _).alloc (Nat.le_refl _) _).grown hgrow (by simp) (fun q hq => (hown.lt q hq).1)

theorem rlock_at (b : Nat) (x0 x3 : Value) (w : World) (c0 : w.cell? ⟨b, 39, none⟩ = some x0) (c3 : w.cell? ⟨b, 42, none⟩ = some x3) (c4 : w.cell? ⟨b, 43, none⟩ = some (.int .i32 0)) (z4 : w.frozen? ⟨b, 43, none⟩ = false) :
    Calls Yba.prog 6 #[.pointer (some ⟨b, 39, none⟩)] w fun e w' => e = .returned (.tuple #[]) ∧ w' = w.setCell ⟨b, 43, none⟩ (.int .i32 1) := by
  have e : wrap32 (0 + 1) = 1 := by simp [wrap32]
  have h := rlock_open rwRLib b 39 0 x0 x3 w c0 c3 c4 z4 (by rw [e]; decide)
  rw [e] at h
  exact h
theorem runlock_at (b : Nat) (x0 x2 : Value) (u : FrameMode) (w : World) (c0 : w.cell? ⟨b, 39, none⟩ = some x0) (c2 : w.cell? ⟨b, 41, none⟩ = some x2) (c4 : w.cell? ⟨b, 43, none⟩ = some (.int .i32 1)) (z4 : w.frozen? ⟨b, 43, none⟩ = false) :
    CallsD Yba.prog 7 #[.pointer (some ⟨b, 39, none⟩)] u w fun e u' w' => u' = u ∧ (e = .returned (.tuple #[]) ∧ w' = w.setCell ⟨b, 43, none⟩ (.int .i32 0)) := by
  have e : wrap32 (1 + -1) = 0 := by simp [wrap32]
  have h := runlock_deferred rwRLib b 39 1 x0 x2 u w c0 c2 c4 z4 (by rw [e]; decide)
  rw [e] at h
  exact h

set_option maxHeartbeats 800000 in
/-- 'Unindexed' over a journal at block b: the value that Clone hands back; the lock's count is 0 again -/
theorem unindexed_own (b g n : Nat) (cs : List Value) (x0 x2 x3 : Value) (w : World) (hn : n ≤ 1048576) (hl : cs.length = n * 3) (hg : g < b) (hc : ∀ j u, cs[j]? = some u → w.cell? ⟨g, j, none⟩ = some u) (h1 : ∀ u ∈ cs, u.oneCell' = true)
    (hb : b < w.heap.size) (c0 : w.cell? ⟨b, 39, none⟩ = some x0) (c2 : w.cell? ⟨b, 41, none⟩ = some x2) (c3 : w.cell? ⟨b, 42, none⟩ = some x3) (c4 : w.cell? ⟨b, 43, none⟩ = some (.int .i32 0)) (z4 : w.frozen? ⟨b, 43, none⟩ = false)
    (c8 : w.cell? ⟨b, 47, none⟩ = some (.slice (some ⟨g, 0, none⟩) n n)) :
    Calls Yba.prog 4 #[.pointer (some ⟨b, 0, none⟩)] w fun e w' => ∃ v', e = .returned v' ∧ w'.ownsRow w.heap.size 26 3 v' n cs ∧ v' ≠ .slice none 0 0 ∧ Below b w w' ∧ w'.cell? ⟨b, 47, none⟩ = some (.slice (some ⟨g, 0, none⟩) n n) := by
  have c8' : (w.setCell ⟨b, 43, none⟩ (.int .i32 1)).cell? ⟨b, 47, none⟩ = some (.slice (some ⟨g, 0, none⟩) n n) := (World.cell?_setCell_other _ ⟨b, 43, none⟩ ⟨b, 47, none⟩ _ (by simp)).trans c8
  have hcc : ∀ j u, cs[j]? = some u → (w.setCell ⟨b, 43, none⟩ (.int .i32 1)).cell? ⟨g, j, none⟩ = some u := fun j u hj => (World.cell?_setCell_other _ ⟨b, 43, none⟩ ⟨g, j, none⟩ _ (by intro h; cases h; omega)).trans (hc j u hj)
  go_enter_defers Yba.func4, Yba.ntmps4
  go_wp2_with (first | (go_at_call 6; refine (rlock_at b x0 x3 _ c0 c3 c4 z4).mono ?_; rintro e w' ⟨rfl, rfl⟩) | (go_at_call 8; refine (clone_own g n cs _ hn hl hcc h1).mono ?_; rintro e w1 ⟨v', rfl, hown, hne, hbel⟩))
  have hsz : (w.setCell ⟨b, 43, none⟩ (.int .i32 1)).heap.size = w.heap.size := by simp
  rw [hsz] at hown hbel
  have hbs := hbel.size
  rw [hsz] at hbs
  refine leaves_cons (f := 7) (args := #[.pointer (some ⟨b, 39, none⟩)]) (by simp) (by simp [go_sem]) ?_
  refine (runlock_at b x0 x2 .returning _ ?_ ?_ ?_ ?_).mono ?_
  · exact (hbel.cell (p := ⟨b, 39, none⟩) hb).trans ((World.cell?_setCell_other _ ⟨b, 43, none⟩ ⟨b, 39, none⟩ _ (by simp)).trans c0)
  · exact (hbel.cell (p := ⟨b, 41, none⟩) hb).trans ((World.cell?_setCell_other _ ⟨b, 43, none⟩ ⟨b, 41, none⟩ _ (by simp)).trans c2)
  · exact (hbel.cell (p := ⟨b, 43, none⟩) hb).trans (World.cell?_setCell_same w _ _ c4)
  · exact (hbel.frozen (p := ⟨b, 43, none⟩) hb).trans (by simp [z4])
  rintro e u' w'' ⟨rfl, rfl, rfl⟩
  refine ⟨_, results_tmp rfl _ _ _, v', rfl, ownsRow_setCell_below hown (by exact hb) _, hne, ?_, ?_⟩
  · have h1 : Below b w (w.setCell ⟨b, 43, none⟩ (.int .i32 1)) := (Below.refl _ _).setCell (p := ⟨b, 43, none⟩) (Nat.le_refl _) _
    exact (h1.trans (hbel.mono (by omega))).setCell (p := ⟨b, 43, none⟩) (Nat.le_refl _) _
  · rw [World.cell?_setCell_other _ ⟨b, 43, none⟩ ⟨b, 47, none⟩ _ (by simp), hbel.cell (p := ⟨b, 47, none⟩) hb]
    exact c8'

set_option maxHeartbeats 800000 in
theorem unindexed_nil (b : Nat) (x0 x2 x3 : Value) (w : World)
    (hb : b < w.heap.size) (c0 : w.cell? ⟨b, 39, none⟩ = some x0) (c2 : w.cell? ⟨b, 41, none⟩ = some x2) (c3 : w.cell? ⟨b, 42, none⟩ = some x3) (c4 : w.cell? ⟨b, 43, none⟩ = some (.int .i32 0)) (z4 : w.frozen? ⟨b, 43, none⟩ = false)
    (c8 : w.cell? ⟨b, 47, none⟩ = some (.slice none 0 0)) :
    Calls Yba.prog 4 #[.pointer (some ⟨b, 0, none⟩)] w fun e w' => e = .returned (.slice none 0 0) ∧ Below b w w' ∧ w'.cell? ⟨b, 47, none⟩ = some (.slice none 0 0) := by
  have c8' : (w.setCell ⟨b, 43, none⟩ (.int .i32 1)).cell? ⟨b, 47, none⟩ = some (.slice none 0 0) := (World.cell?_setCell_other _ ⟨b, 43, none⟩ ⟨b, 47, none⟩ _ (by simp)).trans c8
  go_enter_defers Yba.func4, Yba.ntmps4
  go_wp2_with (first | (go_at_call 6; refine (rlock_at b x0 x3 _ c0 c3 c4 z4).mono ?_; rintro e w' ⟨rfl, rfl⟩) | (go_at_call 8; refine (clone_nil _).mono ?_; rintro e w1 ⟨rfl, rfl⟩))
  refine leaves_cons (f := 7) (args := #[.pointer (some ⟨b, 39, none⟩)]) (by simp) (by simp [go_sem]) ?_
  refine (runlock_at b x0 x2 .returning _ ?_ ?_ ?_ ?_).mono ?_
  · exact (World.cell?_setCell_other _ ⟨b, 43, none⟩ ⟨b, 39, none⟩ _ (by simp)).trans c0
  · exact (World.cell?_setCell_other _ ⟨b, 43, none⟩ ⟨b, 41, none⟩ _ (by simp)).trans c2
  · exact World.cell?_setCell_same w _ _ c4
  · simp [z4]
  rintro e u' w'' ⟨rfl, rfl, rfl⟩
  refine ⟨_, results_tmp rfl _ _ _, rfl, ?_, ?_⟩
  · exact ((Below.refl _ _).setCell (p := ⟨b, 43, none⟩) (Nat.le_refl _) _).setCell (p := ⟨b, 43, none⟩) (Nat.le_refl _) _
  · rw [World.cell?_setCell_other _ ⟨b, 43, none⟩ ⟨b, 47, none⟩ _ (by simp)]
    exact c8'
end Go.Proofs.Ybulkdntq
