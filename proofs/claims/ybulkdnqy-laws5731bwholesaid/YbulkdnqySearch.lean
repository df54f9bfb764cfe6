import Derived.Test.YbulkdnqyCallees
namespace Go.Proofs.Ybulkdnqy
open Go.ChangeShapes Go.WideShapes Go.ChangeAt Go.RowKit
open Plain
set_option linter.unusedSimpArgs false
set_option linter.unusedVariables false

set_option maxHeartbeats 1000000 in
theorem search1 (g n : Nat) (ts : Nat → ByteArray) (p : ByteArray) (w : World) (hn : (n : Int) ≤ 1048576) (hg : g < w.heap.size) (hs : ScAt w g n ts)
    (hmono : ∀ a b, a ≤ b → b < n → cf1 (bs p) (bs (ts b)) < 0 → cf1 (bs p) (bs (ts a)) < 0) :
    Calls Yba.prog 11 #[.slice (some ⟨g, 0, none⟩) n n, .string p, .func (.func 12) #[] #[]] w fun e w' =>
      ∃ fnd, e = .returned (.tuple #[.int .i64 (cnt (fun t => decide (cf1 (bs p) (bs (ts t)) < 0)) n : Nat), .bool fnd]) ∧ Below w.heap.size w w' := by
  have HM : Hid _ := hmono
  clear hmono
  go_enter Yba.func11, Yba.ntmps11
  go_wp2
  go_loopw [9, 10] (fun a b wr => ∃ lo hi : Nat, a = .int .i64 lo ∧ b = .int .i64 hi ∧ lo ≤ hi ∧ hi ≤ n ∧ Below w.heap.size w wr ∧ Hid ((∀ t, t < lo → cf1 (bs p) (bs (ts t)) < 0) ∧ (∀ t, hi ≤ t → t < n → 0 ≤ cf1 (bs p) (bs (ts t)))))
    (fun a b _ => ((intOf b) - (intOf a)).toNat)
  case atStart => exact ⟨0, n, rfl, rfl, Nat.zero_le _, Nat.le_refl _, Below.refl _ _, ⟨fun t ht => absurd ht (Nat.not_lt_zero _), fun t h1 h2 => by omega⟩⟩
  case round =>
    obtain ⟨lo, hi, rfl, rfl, hlh, hin, hbel, HI⟩ := hrel
    have hsz := hbel.size
    by_cases hlt : lo < hi
    · obtain ⟨m, hm⟩ : ∃ m, m = (lo + hi) / 2 := ⟨_, rfl⟩
      have hm1 : lo ≤ m := by omega
      have hm2 : m < hi := by omega
      have hmI : ((lo : Int) + (hi : Int)) / 2 = (m : Int) := by omega
      have HE : Hid _ := hm
      clear hm
      have S := hs.later hbel hg
      have q0 := S.c0 m (by omega)
      have q1 := S.c1 m (by omega)
      have q2 := S.c2 m (by omega)
      have q3 := S.c3 m (by omega)
      have q4 := S.c4 m (by omega)
      have q5 := S.c5 m (by omega)
      have q6 := S.c6 m (by omega)
      have q7 := S.c7 m (by omega)
      have hml : m < n := by omega
      clear S
      by_cases hc : cf1 (bs p) (bs (ts m)) < 0
      · go_wp2_with (go_at_call 12; refine (cl1_any _ _ _).mono ?_; rintro e w' ⟨rfl, rfl⟩)
        go_roundw
        case rel =>
          refine ⟨m + 1, hi, by go_num, rfl, by omega, hin, hbel.alloc hsz _, ⟨fun t ht => ?_, HI.out.2⟩⟩
          exact HM.out t m (by omega) hml hc
        case measure => simp [intOf]; omega
      · go_wp2_with (go_at_call 12; refine (cl1_any _ _ _).mono ?_; rintro e w' ⟨rfl, rfl⟩)
        go_roundw
        case rel =>
          refine ⟨lo, m, rfl, rfl, by omega, by omega, hbel.alloc hsz _, ⟨HI.out.1, fun t h1 h2 => ?_⟩⟩
          exact Int.not_lt.1 fun h3 => absurd (HM.out m t h1 h2 h3) (by omega)
        case measure => simp [intOf]; omega
    · obtain rfl : lo = hi := by omega
      have HC : Hid (cnt (fun t => decide (cf1 (bs p) (bs (ts t)) < 0)) n = lo) :=
        cnt_boundary _ lo n (fun t ht => by simpa using HI.out.1 t ht) (fun t h1 h2 => by have := HI.out.2 t h1 h2; simp; omega) hin
      by_cases hln : lo < n
      · have S := hs.later hbel hg
        have q0 := S.c0 lo hln
        have q1 := S.c1 lo hln
        have q2 := S.c2 lo hln
        have q3 := S.c3 lo hln
        have q4 := S.c4 lo hln
        have q5 := S.c5 lo hln
        have q6 := S.c6 lo hln
        have q7 := S.c7 lo hln
        clear S
        go_wp2_with (go_at_call 12; refine (cl1_any _ _ _).mono ?_; rintro e w' ⟨rfl, rfl⟩)
        go_ret2
        exact ⟨_, by rw [HC.out]; rfl, hbel.alloc hsz _⟩
      · have hd : decide ((lo : Int) < (n : Int)) = false := decide_eq_false (by omega)
        go_wp2_with (go_at_call 12; refine (cl1_any _ _ _).mono ?_; rintro e w' ⟨rfl, rfl⟩)
        go_ret2
        first | exact ⟨_, by rw [HC.out]; rfl, hbel⟩ | (refine ⟨?_, hbel⟩; rw [HC.out])

set_option maxHeartbeats 1000000 in
theorem search2 (g n : Nat) (ts : Nat → ByteArray) (p : ByteArray) (w : World) (hn : (n : Int) ≤ 1048576) (hg : g < w.heap.size) (hs : ScAt w g n ts)
    (hmono : ∀ a b, a ≤ b → b < n → cf2 (bs p) (bs (ts b)) < 0 → cf2 (bs p) (bs (ts a)) < 0) :
    Calls Yba.prog 11 #[.slice (some ⟨g, 0, none⟩) n n, .string p, .func (.func 14) #[] #[]] w fun e w' =>
      ∃ fnd, e = .returned (.tuple #[.int .i64 (cnt (fun t => decide (cf2 (bs p) (bs (ts t)) < 0)) n : Nat), .bool fnd]) ∧ Below w.heap.size w w' := by
  have HM : Hid _ := hmono
  clear hmono
  go_enter Yba.func11, Yba.ntmps11
  go_wp2
  go_loopw [9, 10] (fun a b wr => ∃ lo hi : Nat, a = .int .i64 lo ∧ b = .int .i64 hi ∧ lo ≤ hi ∧ hi ≤ n ∧ Below w.heap.size w wr ∧ Hid ((∀ t, t < lo → cf2 (bs p) (bs (ts t)) < 0) ∧ (∀ t, hi ≤ t → t < n → 0 ≤ cf2 (bs p) (bs (ts t)))))
    (fun a b _ => ((intOf b) - (intOf a)).toNat)
  case atStart => exact ⟨0, n, rfl, rfl, Nat.zero_le _, Nat.le_refl _, Below.refl _ _, ⟨fun t ht => absurd ht (Nat.not_lt_zero _), fun t h1 h2 => by omega⟩⟩
  case round =>
    obtain ⟨lo, hi, rfl, rfl, hlh, hin, hbel, HI⟩ := hrel
    have hsz := hbel.size
    by_cases hlt : lo < hi
    · obtain ⟨m, hm⟩ : ∃ m, m = (lo + hi) / 2 := ⟨_, rfl⟩
      have hm1 : lo ≤ m := by omega
      have hm2 : m < hi := by omega
      have hmI : ((lo : Int) + (hi : Int)) / 2 = (m : Int) := by omega
      have HE : Hid _ := hm
      clear hm
      have S := hs.later hbel hg
      have q0 := S.c0 m (by omega)
      have q1 := S.c1 m (by omega)
      have q2 := S.c2 m (by omega)
      have q3 := S.c3 m (by omega)
      have q4 := S.c4 m (by omega)
      have q5 := S.c5 m (by omega)
      have q6 := S.c6 m (by omega)
      have q7 := S.c7 m (by omega)
      have hml : m < n := by omega
      clear S
      by_cases hc : cf2 (bs p) (bs (ts m)) < 0
      · go_wp2_with (go_at_call 14; refine (cl2_any _ _ _).mono ?_; rintro e w' ⟨rfl, rfl⟩)
        go_roundw
        case rel =>
          refine ⟨m + 1, hi, by go_num, rfl, by omega, hin, hbel.alloc hsz _, ⟨fun t ht => ?_, HI.out.2⟩⟩
          exact HM.out t m (by omega) hml hc
        case measure => simp [intOf]; omega
      · go_wp2_with (go_at_call 14; refine (cl2_any _ _ _).mono ?_; rintro e w' ⟨rfl, rfl⟩)
        go_roundw
        case rel =>
          refine ⟨lo, m, rfl, rfl, by omega, by omega, hbel.alloc hsz _, ⟨HI.out.1, fun t h1 h2 => ?_⟩⟩
          exact Int.not_lt.1 fun h3 => absurd (HM.out m t h1 h2 h3) (by omega)
        case measure => simp [intOf]; omega
    · obtain rfl : lo = hi := by omega
      have HC : Hid (cnt (fun t => decide (cf2 (bs p) (bs (ts t)) < 0)) n = lo) :=
        cnt_boundary _ lo n (fun t ht => by simpa using HI.out.1 t ht) (fun t h1 h2 => by have := HI.out.2 t h1 h2; simp; omega) hin
      by_cases hln : lo < n
      · have S := hs.later hbel hg
        have q0 := S.c0 lo hln
        have q1 := S.c1 lo hln
        have q2 := S.c2 lo hln
        have q3 := S.c3 lo hln
        have q4 := S.c4 lo hln
        have q5 := S.c5 lo hln
        have q6 := S.c6 lo hln
        have q7 := S.c7 lo hln
        clear S
        go_wp2_with (go_at_call 14; refine (cl2_any _ _ _).mono ?_; rintro e w' ⟨rfl, rfl⟩)
        go_ret2
        exact ⟨_, by rw [HC.out]; rfl, hbel.alloc hsz _⟩
      · have hd : decide ((lo : Int) < (n : Int)) = false := decide_eq_false (by omega)
        go_wp2_with (go_at_call 14; refine (cl2_any _ _ _).mono ?_; rintro e w' ⟨rfl, rfl⟩)
        go_ret2
        first | exact ⟨_, by rw [HC.out]; rfl, hbel⟩ | (refine ⟨?_, hbel⟩; rw [HC.out])

end Go.Proofs.Ybulkdnqy
