/-
  The walk of julian: what it leaves of a moment that lies in the newest block.
-/
import Derived.Test.Qxb6604200aCivilSmall
import Derived.Deep.QuietTactic
import Derived.BigQuiet
namespace Go.Proofs.Qxb6604200a
open Go.RowKit
attribute [local go_sem] run_store_float

theorem setCell_drewN (w : World) (n : Nat) (a : Addr) (v : Value) : (w.drewN n).setCell a v = (w.setCell a v).drewN n := rfl
theorem alloc_drewN (w : World) (n : Nat) (o : Obj) : (w.drewN n).alloc o = (w.alloc o).drewN n := rfl
attribute [local go_sem] setCell_drewN alloc_drewN

theorem val_i64' {a b : Int} (h : a = b) : Value.int .i64 a = .int .i64 b := by rw [h]

theorem fail_N (jd year month day hour minute zone overflow : Int) (second number : Nat) (hasJD hasDate hasClock isNumber utc loc subsec failed : Bool) (W : World) (k : Nat) :
    Calls Try.prog 37 #[.pointer (some ⟨W.heap.size, 0, none⟩)] ((W.alloc (.cells #[.int .i64 jd, .bool hasJD, .int .i64 year, .int .i64 month, .int .i64 day, .bool hasDate, .int .i64 hour, .int .i64 minute, .float .f64 second, .bool hasClock, .float .f64 number, .bool isNumber, .int .i64 zone, .bool utc, .bool loc, .bool subsec, .int .i64 overflow, .bool failed] 53)).drewN k) fun e w' => e = .returned (.tuple #[]) ∧ w' = (W.alloc (.cells #[.int .i64 0, .bool false, .int .i64 0, .int .i64 0, .int .i64 0, .bool false, .int .i64 0, .int .i64 0, .float .f64 0, .bool false, .float .f64 0, .bool false, .int .i64 0, .bool false, .bool false, .bool false, .int .i64 0, .bool true] 53)).drewN k :=
  fail_any jd year month day hour minute zone overflow second number hasJD hasDate hasClock isNumber utc loc subsec failed (W.drewN k)

set_option maxHeartbeats 1000000 in
set_option maxRecDepth 10000 in
theorem julian_has (jd year month day hour minute zone overflow : Int) (second number : Nat) (hasDate hasClock isNumber utc loc subsec failed : Bool) (W : World) :
    Calls Try.prog 30 #[.pointer (some ⟨W.heap.size, 0, none⟩)] (W.alloc (.cells #[.int .i64 jd, .bool true, .int .i64 year, .int .i64 month, .int .i64 day, .bool hasDate, .int .i64 hour, .int .i64 minute, .float .f64 second, .bool hasClock, .float .f64 number, .bool isNumber, .int .i64 zone, .bool utc, .bool loc, .bool subsec, .int .i64 overflow, .bool failed] 53))
    fun e w' => e = .returned (.tuple #[]) ∧ w' = W.alloc (.cells #[.int .i64 jd, .bool true, .int .i64 year, .int .i64 month, .int .i64 day, .bool hasDate, .int .i64 hour, .int .i64 minute, .float .f64 second, .bool hasClock, .float .f64 number, .bool isNumber, .int .i64 zone, .bool utc, .bool loc, .bool subsec, .int .i64 overflow, .bool failed] 53) := by
  go_enter Try.func30, Try.ntmps30
  go_wp2
  refine bodyPost_ret (results_none rfl _ _ _) rfl ?_
  exact ⟨rfl, rfl⟩

set_option maxHeartbeats 1000000 in
set_option maxRecDepth 10000 in
theorem julian_fail (jd year month day hour minute zone overflow : Int) (second number : Nat) (hasDate hasClock isNumber utc loc subsec failed : Bool) (W : World) (Ys Ms Ds : Int) (hst : (hasDate = true ∧ Ys = year ∧ Ms = month ∧ Ds = day) ∨ (hasDate = false ∧ Ys = 2000 ∧ Ms = 1 ∧ Ds = 1)) (hbad : Ys < -4713 ∨ 9999 < Ys ∨ isNumber = true) :
    Calls Try.prog 30 #[.pointer (some ⟨W.heap.size, 0, none⟩)] (W.alloc (.cells #[.int .i64 jd, .bool false, .int .i64 year, .int .i64 month, .int .i64 day, .bool hasDate, .int .i64 hour, .int .i64 minute, .float .f64 second, .bool hasClock, .float .f64 number, .bool isNumber, .int .i64 zone, .bool utc, .bool loc, .bool subsec, .int .i64 overflow, .bool failed] 53))
    fun e w' => e = .returned (.tuple #[]) ∧ ∃ k, w' = (W.alloc (.cells #[.int .i64 0, .bool false, .int .i64 0, .int .i64 0, .int .i64 0, .bool false, .int .i64 0, .int .i64 0, .float .f64 0, .bool false, .float .f64 0, .bool false, .int .i64 0, .bool false, .bool false, .bool false, .int .i64 0, .bool true] 53)).drewN k := by
  have HST : Hid ((hasDate = true ∧ Ys = year ∧ Ms = month ∧ Ds = day) ∨ (hasDate = false ∧ Ys = 2000 ∧ Ms = 1 ∧ Ds = 1)) := hst
  clear hst
  have HB : Hid (Ys < -4713 ∨ 9999 < Ys ∨ isNumber = true) := hbad
  clear hbad
  go_enter Try.func30, Try.ntmps30
  go_upto_if 15 with fail
  go_cut [2, 3, 4] (fun a b c wx => a = .int .i64 Ys ∧ b = .int .i64 Ms ∧ c = .int .i64 Ds ∧ ∃ k, wx = (W.alloc (.cells #[.int .i64 jd, .bool false, .int .i64 year, .int .i64 month, .int .i64 day, .bool hasDate, .int .i64 hour, .int .i64 minute, .float .f64 second, .bool hasClock, .float .f64 number, .bool isNumber, .int .i64 zone, .bool utc, .bool loc, .bool subsec, .int .i64 overflow, .bool failed] 53)).drewN k)
  case first =>
    rcases HST.out with ⟨rfl, rfl, rfl, rfl⟩ | ⟨rfl, rfl, rfl, rfl⟩
    · go_wp2_with fail
      go_quiet (fail)
      go_wp2_with fail
      go_meet
      case rel => exact ⟨rfl, rfl, rfl, _, rfl⟩
    · go_wp2_with fail
      go_meet
      case rel => exact ⟨rfl, rfl, rfl, 0, rfl⟩
  case rest =>
    obtain ⟨rfl, rfl, rfl, k, rfl⟩ := hcut
    by_cases c1 : Ys < -4713
    · go_wp2_with (go_at_call 37; refine (fail_N _ _ _ _ _ _ _ _ _ _ _ _ _ _ _ _ _ _ _ _).mono ?_; rintro e w' ⟨rfl, rfl⟩)
      refine bodyPost_ret (results_none rfl _ _ _) rfl ?_
      exact ⟨rfl, _, rfl⟩
    · by_cases c2 : 9999 < Ys
      · go_wp2_with (go_at_call 37; refine (fail_N _ _ _ _ _ _ _ _ _ _ _ _ _ _ _ _ _ _ _ _).mono ?_; rintro e w' ⟨rfl, rfl⟩)
        refine bodyPost_ret (results_none rfl _ _ _) rfl ?_
        exact ⟨rfl, _, rfl⟩
      · obtain rfl : isNumber = true := by
          rcases HB.out with h | h | h
          · exact absurd h c1
          · exact absurd h c2
          · exact h
        go_wp2_with (go_at_call 37; refine (fail_N _ _ _ _ _ _ _ _ _ _ _ _ _ _ _ _ _ _ _ _).mono ?_; rintro e w' ⟨rfl, rfl⟩)
        refine bodyPost_ret (results_none rfl _ _ _) rfl ?_
        exact ⟨rfl, _, rfl⟩

set_option maxHeartbeats 1000000 in
set_option maxRecDepth 10000 in
theorem julian_plain (jd year month day hour minute zone overflow : Int) (second number : Nat) (hasDate utc loc subsec failed : Bool) (W : World) (Ys Ms Ds Yp Mp DD : Int) (hst : (hasDate = true ∧ Ys = year ∧ Ms = month ∧ Ds = day) ∨ (hasDate = false ∧ Ys = 2000 ∧ Ms = 1 ∧ Ds = 1)) (y1 : -4713 ≤ Ys) (y2 : Ys ≤ 9999) (m1 : 1 ≤ Ms) (m2 : Ms ≤ 12) (d1 : -16777216 ≤ Ds) (d2 : Ds ≤ 16777216)
    (hp : (Ms ≤ 2 ∧ Yp = Ys - 1 ∧ Mp = Ms + 12) ∨ (2 < Ms ∧ Yp = Ys ∧ Mp = Ms)) (hDD : DD = 36525 * (Yp + 4716) / 100 + 306001 * (Mp + 1) / 10000 + Ds + (38 - (Yp + 4800) / 100 + (Yp + 4800) / 100 / 4)) (D1 : -30000000 ≤ DD) (D2 : DD ≤ 30000000) :
    Calls Try.prog 30 #[.pointer (some ⟨W.heap.size, 0, none⟩)] (W.alloc (.cells #[.int .i64 jd, .bool false, .int .i64 year, .int .i64 month, .int .i64 day, .bool hasDate, .int .i64 hour, .int .i64 minute, .float .f64 second, .bool false, .float .f64 number, .bool false, .int .i64 zone, .bool utc, .bool loc, .bool subsec, .int .i64 overflow, .bool failed] 53))
    fun e w' => e = .returned (.tuple #[]) ∧ ∃ k, w' = (W.alloc (.cells #[.int .i64 ((2 * DD - 3049) * 43200000), .bool true, .int .i64 year, .int .i64 month, .int .i64 day, .bool hasDate, .int .i64 hour, .int .i64 minute, .float .f64 second, .bool false, .float .f64 number, .bool false, .int .i64 zone, .bool utc, .bool loc, .bool subsec, .int .i64 overflow, .bool failed] 53)).drewN k := by
  have HST : Hid ((hasDate = true ∧ Ys = year ∧ Ms = month ∧ Ds = day) ∨ (hasDate = false ∧ Ys = 2000 ∧ Ms = 1 ∧ Ds = 1)) := hst
  clear hst
  have HP : Hid ((Ms ≤ 2 ∧ Yp = Ys - 1 ∧ Mp = Ms + 12) ∨ (2 < Ms ∧ Yp = Ys ∧ Mp = Ms)) := hp
  have HD : Hid (DD = 36525 * (Yp + 4716) / 100 + 306001 * (Mp + 1) / 10000 + Ds + (38 - (Yp + 4800) / 100 + (Yp + 4800) / 100 / 4)) := hDD
  have p1 : -4714 ≤ Yp := by omega
  have p2 : Yp ≤ 9999 := by omega
  have p3 : 3 ≤ Mp := by omega
  have p4 : Mp ≤ 14 := by omega
  clear hp hDD
  obtain ⟨r1, r2, f1, f2, f3⟩ := Flt.jul_ms DD D1 D2
  have g1 : ∀ t w, (binOp .sub t (.float .f64 (floatOfInt .f64 DD)) (.float .f64 4654419637352529920)).run Try.prog w = .ok (.float .f64 r1) w := fun t w => run_float_arith w .sub t .f64 _ _ r1 f1
  have g2 : ∀ t w, (binOp .mul t (.float .f64 r1) (.float .f64 4725570615333879808)).run Try.prog w = .ok (.float .f64 r2) w := fun t w => run_float_arith w .mul t .f64 _ _ r2 f2
  have g3 : ∀ w, (convert 28 2 (.float .f64 r2)).run Try.prog w = .ok (.int .i64 ((2 * DD - 3049) * 43200000)) w := fun w => run_convert_float_int w 28 2 .f64 .i64 r2 _ (by rw [Try.underlying28]; rfl) Try.underlying2 f3
  clear f1 f2 f3
  go_enter Try.func30, Try.ntmps30
  go_upto_if 15 with fail
  go_cut [2, 3, 4] (fun a b c wx => a = .int .i64 Ys ∧ b = .int .i64 Ms ∧ c = .int .i64 Ds ∧ ∃ k, wx = (W.alloc (.cells #[.int .i64 jd, .bool false, .int .i64 year, .int .i64 month, .int .i64 day, .bool hasDate, .int .i64 hour, .int .i64 minute, .float .f64 second, .bool false, .float .f64 number, .bool false, .int .i64 zone, .bool utc, .bool loc, .bool subsec, .int .i64 overflow, .bool failed] 53)).drewN k)
  case first =>
    rcases HST.out with ⟨rfl, rfl, rfl, rfl⟩ | ⟨rfl, rfl, rfl, rfl⟩
    · go_wp2_with fail
      go_quiet (fail)
      go_wp2_with fail
      go_meet
      case rel => exact ⟨rfl, rfl, rfl, _, rfl⟩
    · go_wp2_with fail
      go_meet
      case rel => exact ⟨rfl, rfl, rfl, 0, rfl⟩
  case rest =>
    obtain ⟨rfl, rfl, rfl, k, rfl⟩ := hcut
    go_upto_if 43 with fail
    go_cut [2, 3] (fun a b wx => a = .int .i64 Yp ∧ b = .int .i64 Mp ∧ wx = (W.alloc (.cells #[.int .i64 jd, .bool false, .int .i64 year, .int .i64 month, .int .i64 day, .bool hasDate, .int .i64 hour, .int .i64 minute, .float .f64 second, .bool false, .float .f64 number, .bool false, .int .i64 zone, .bool utc, .bool loc, .bool subsec, .int .i64 overflow, .bool failed] 53)).drewN k)
    case first =>
      rcases HP.out with ⟨c, rfl, rfl⟩ | ⟨c, rfl, rfl⟩
      · go_wp2_with fail
        go_meet
        case rel => exact ⟨rfl, rfl, rfl⟩
      · go_wp2_with fail
        go_meet
        case rel => exact ⟨rfl, rfl, rfl⟩
    case rest =>
      obtain ⟨rfl, rfl, rfl⟩ := hcut
      go_upto_region 11 with fail
      go_cut [7] (fun a wx => a = .int .i64 DD ∧ wx = (W.alloc (.cells #[.int .i64 jd, .bool false, .int .i64 year, .int .i64 month, .int .i64 day, .bool hasDate, .int .i64 hour, .int .i64 minute, .float .f64 second, .bool false, .float .f64 number, .bool false, .int .i64 zone, .bool utc, .bool loc, .bool subsec, .int .i64 overflow, .bool failed] 53)).drewN k)
      case first =>
        go_wp2_with fail
        go_meet
        case rel => exact ⟨val_i64' (by rw [HD.out]), rfl⟩
      case rest =>
        obtain ⟨rfl, rfl⟩ := hcut
        go_wp2
        refine bodyPost_ret (results_none rfl _ _ _) rfl ?_
        exact ⟨rfl, _, rfl⟩

end Go.Proofs.Qxb6604200a
