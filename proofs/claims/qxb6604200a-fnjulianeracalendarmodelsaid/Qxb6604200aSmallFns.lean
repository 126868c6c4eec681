/-
  zzDaysIn, zzMod400, zzSQLiteFeb29.
-/
import Derived.Test.Qxb6604200aRows
import Derived.WalkKit
import Derived.WalkSpells
import Derived.WalkLawsBesides
import Derived.Test.Qxb6604200aCalReal
namespace Go.Proofs.Qxb6604200a
open Go.RowKit

theorem tmod_zero (y k : Int) : y.tmod k = 0 ↔ y % k = 0 := by
  rw [← Int.dvd_iff_tmod_eq_zero, ← Int.dvd_iff_emod_eq_zero]

theorem mod400_val (y : Int) : (wrap64 (y.tmod 400 + 400)).tmod 400 = y % 400 := by
  have h1 := Int.mul_tdiv_add_tmod y 400
  have h2 : y.tmod 400 < 400 := Int.tmod_lt_of_pos y (by decide)
  have h3 : -400 < y.tmod 400 := by
    have h := Int.tmod_lt_of_pos (-y) (show (0 : Int) < 400 by decide)
    rw [Int.neg_tmod] at h
    omega
  obtain ⟨x, hx⟩ : ∃ x, x = y.tmod 400 := ⟨_, rfl⟩
  rw [← hx] at h1 h2 h3 ⊢
  have hw : wrap64 (x + 400) = x + 400 := by unfold wrap64; omega
  rw [hw, Int.tmod_eq_emod_of_nonneg (by omega)]
  omega

set_option maxHeartbeats 1000000 in
set_option maxRecDepth 10000 in
theorem mod400_any (y : Int) (w : World) :
    Calls Try.prog 35 #[.int .i64 y] w fun e w' => e = .returned (.int .i64 (y % 400)) ∧ w = w' := by
  go_enter Try.func35, Try.ntmps35
  go_wp2
  go_ret
  exact ⟨by rw [← mod400_val y]; rfl, rfl⟩

set_option maxHeartbeats 1000000 in
set_option maxRecDepth 10000 in
theorem daysIn_30 (y m : Int) (w : World) (h : m = 4 ∨ m = 6 ∨ m = 9 ∨ m = 11) :
    Calls Try.prog 23 #[.int .i64 y, .int .i64 m] w fun e w' => e = .returned (.int .i64 30) ∧ w = w' := by
  rcases h with rfl | rfl | rfl | rfl
  all_goals
    go_enter Try.func23, Try.ntmps23
    go_wp2
    go_ret
    exact ⟨rfl, rfl⟩

set_option maxHeartbeats 1000000 in
set_option maxRecDepth 10000 in
theorem daysIn_2 (y N : Int) (w : World) (hN : Hid (N = Cal.daysIn y 2)) :
    Calls Try.prog 23 #[.int .i64 y, .int .i64 2] w fun e w' => e = .returned (.int .i64 N) ∧ w = w' := by
  have H29 : Hid (y.tmod 4 = 0 → (y.tmod 100 = 0 → y.tmod 400 = 0) → N = 29) := by
    unfold Hid
    intro h1 h2
    rw [hN.out]
    unfold Cal.daysIn
    rw [tmod_zero] at h1
    rw [tmod_zero, tmod_zero] at h2
    rw [if_neg (by omega), if_pos rfl, if_pos (by omega)]
  have H28 : Hid ((y.tmod 4 = 0 → y.tmod 100 = 0 ∧ ¬ y.tmod 400 = 0) → N = 28) := by
    unfold Hid
    intro h1
    rw [hN.out]
    unfold Cal.daysIn
    rw [tmod_zero, tmod_zero, tmod_zero] at h1
    rw [if_neg (by omega), if_pos rfl, if_neg (by omega)]
  by_cases h4 : y.tmod 4 = 0
  · by_cases h100 : y.tmod 100 = 0
    · by_cases h400 : y.tmod 400 = 0
      · have hv := H29.out h4 (fun _ => h400)
        subst hv
        have q : (y.tmod 400 == 0) = true := by rw [h400]; rfl
        go_enter Try.func23, Try.ntmps23
        go_wp2
        go_ret
        exact ⟨rfl, rfl⟩
      · have hv := H28.out (fun _ => ⟨h100, h400⟩)
        subst hv
        have q : (y.tmod 400 == 0) = false := by simpa using h400
        go_enter Try.func23, Try.ntmps23
        go_wp2
        go_ret
        exact ⟨rfl, rfl⟩
    · have hv := H29.out h4 (fun h => absurd h h100)
      subst hv
      have q : (y.tmod 100 != 0) = true := by simpa using h100
      go_enter Try.func23, Try.ntmps23
      go_wp2
      go_ret
      exact ⟨rfl, rfl⟩
  · have hv := H28.out (fun h => absurd h h4)
    subst hv
    have q : (y.tmod 4 == 0) = false := by simpa using h4
    go_enter Try.func23, Try.ntmps23
    go_wp2
    go_ret
    exact ⟨rfl, rfl⟩

set_option maxHeartbeats 1000000 in
set_option maxRecDepth 10000 in
theorem daysIn_31 (y m : Int) (w : World) (h4 : (m == 4) = false) (h6 : (m == 6) = false) (h9 : (m == 9) = false) (h11 : (m == 11) = false) (h2 : (m == 2) = false) :
    Calls Try.prog 23 #[.int .i64 y, .int .i64 m] w fun e w' => e = .returned (.int .i64 31) ∧ w = w' := by
  go_enter Try.func23, Try.ntmps23
  go_wp2
  go_ret
  exact ⟨rfl, rfl⟩

theorem daysIn_any (y m : Int) (w : World) :
    Calls Try.prog 23 #[.int .i64 y, .int .i64 m] w fun e w' => e = .returned (.int .i64 (Cal.daysIn y m)) ∧ w = w' := by
  by_cases h : m = 4 ∨ m = 6 ∨ m = 9 ∨ m = 11
  · have e : Cal.daysIn y m = 30 := by unfold Cal.daysIn; rw [if_pos h]
    rw [e]
    exact daysIn_30 y m w h
  · by_cases h2 : m = 2
    · subst h2
      exact daysIn_2 y _ w rfl
    · have e : Cal.daysIn y m = 31 := by unfold Cal.daysIn; rw [if_neg h, if_neg h2]
      rw [e]
      exact daysIn_31 y m w (by simp; omega) (by simp; omega) (by simp; omega) (by simp; omega) (by simp; omega)

set_option maxHeartbeats 1000000 in
set_option maxRecDepth 10000 in
theorem feb29_yes (y : Int) (w : World) (h : y ≤ 300) (hm : (y % 400 == 300) = true) :
    Calls Try.prog 25 #[.int .i64 y, .int .i64 3, .int .i64 1] w fun e w' => e = .returned (.bool true) ∧ w = w' := by
  have c35 : Hid (∀ w, Calls Try.prog 35 #[.int .i64 y] w fun e w' => e = .returned (.int .i64 (y % 400)) ∧ w = w') := mod400_any y
  go_enter Try.func25, Try.ntmps25
  go_wp2_with (go_at_call 35; refine (c35.out _).mono ?_; rintro e w' ⟨rfl, rfl⟩)
  go_ret
  exact ⟨rfl, rfl⟩

set_option maxHeartbeats 1000000 in
set_option maxRecDepth 10000 in
theorem feb29_no (y m d : Int) (w : World) (h : ¬ Cal.March y m d) :
    Calls Try.prog 25 #[.int .i64 y, .int .i64 m, .int .i64 d] w fun e w' => e = .returned (.bool false) ∧ w = w' := by
  have c35 : Hid (∀ w, Calls Try.prog 35 #[.int .i64 y] w fun e w' => e = .returned (.int .i64 (y % 400)) ∧ w = w') := mod400_any y
  have H : Hid (¬ Cal.March y m d) := h
  clear h
  by_cases h3 : m = 3
  · by_cases h1 : d = 1
    · by_cases h300 : y ≤ 300
      · have hq : (y % 400 == 300) = false := by
          rw [beq_eq_false_iff_ne]
          exact fun hy => H.out ⟨h3, h1, h300, hy⟩
        subst h3 h1
        go_enter Try.func25, Try.ntmps25
        go_wp2_with (go_at_call 35; refine (c35.out _).mono ?_; rintro e w' ⟨rfl, rfl⟩)
        go_ret
        exact ⟨rfl, rfl⟩
      · subst h3 h1
        go_enter Try.func25, Try.ntmps25
        go_wp2
        go_ret
        exact ⟨rfl, rfl⟩
    · have hq : (d == 1) = false := by simpa using h1
      subst h3
      go_enter Try.func25, Try.ntmps25
      go_wp2
      go_ret
      exact ⟨rfl, rfl⟩
  · have hq : (m == 3) = false := by simpa using h3
    go_enter Try.func25, Try.ntmps25
    go_wp2
    go_ret
    exact ⟨rfl, rfl⟩

end Go.Proofs.Qxb6604200a
