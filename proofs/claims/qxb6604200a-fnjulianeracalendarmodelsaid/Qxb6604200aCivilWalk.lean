/-
  The walk of civil's main way: the date of a julian day.
-/
import Derived.Test.Qxb6604200aCivilSmall
namespace Go.Proofs.Qxb6604200a
open Go.RowKit
attribute [local go_sem] run_store_float

theorem and_low (c : Int) (h0 : 0 ≤ c) (h1 : c < 32768) : bits .and .i64 c 32767 = c := by
  obtain ⟨n, rfl⟩ := Int.eq_ofNat_of_zero_le h0
  have e1 : (BitVec.ofInt 64 (n : Int)).toNat = n := by simp; omega
  have e2 : (BitVec.ofInt 64 (32767 : Int)).toNat = 32767 := by decide
  show IntKind.i64.wrap (((BitVec.ofInt 64 (n : Int) &&& BitVec.ofInt 64 (32767 : Int)).toNat : Nat) : Int) = _
  rw [BitVec.toNat_and, e1, e2, nat_mask15, Nat.mod_eq_of_lt (by omega)]
  simp [IntKind.wrap, IntKind.bits, IntKind.signed]
  omega

theorem val_i64 {a b : Int} (h : a = b) : Value.int .i64 a = .int .i64 b := by rw [h]

set_option maxHeartbeats 1000000 in
set_option maxRecDepth 10000 in
theorem civil_main1 (jd year month day hour minute zone overflow : Int) (second number : Nat) (hasClock isNumber utc loc subsec failed : Bool) (W : World) (h1 : 0 ≤ jd) (h2 : jd ≤ 464269060799999)
    (Z A B C D E : Int) (hZ : Z = (jd + 43200000) / 86400000) (hA : A = (4 * Z - 7468865).tdiv 146097) (hB : B = Z + 1 + A - A.tdiv 4 + 1524) (hC : C = (20 * B - 2442) / 7305) (hD : D = 36525 * C / 100) (hE : E = (B - D) * 10000 / 306001)
    (bA1 : -60 ≤ A) (bA2 : A ≤ 100) (bT1 : -20 ≤ A.tdiv 4) (bT2 : A.tdiv 4 ≤ 30) (bB1 : 1000 ≤ B) (bB2 : B ≤ 6000000) (bC1 : 0 ≤ C) (bC2 : C < 32768) (bD1 : 0 ≤ B - D) (bD2 : B - D < 500) (bE1 : 4 ≤ E ∧ E ≤ 13) :
    Calls Try.prog 34 #[.pointer (some ⟨W.heap.size, 0, none⟩)] (W.alloc (.cells #[.int .i64 jd, .bool true, .int .i64 year, .int .i64 month, .int .i64 day, .bool false, .int .i64 hour, .int .i64 minute, .float .f64 second, .bool hasClock, .float .f64 number, .bool isNumber, .int .i64 zone, .bool utc, .bool loc, .bool subsec, .int .i64 overflow, .bool failed] 53))
    fun e w' => e = .returned (.tuple #[]) ∧ w' = W.alloc (.cells #[.int .i64 jd, .bool true, .int .i64 (C - 4716), .int .i64 (E - 1), .int .i64 (B - D - 306001 * E / 10000), .bool true, .int .i64 hour, .int .i64 minute, .float .f64 second, .bool hasClock, .float .f64 number, .bool isNumber, .int .i64 zone, .bool utc, .bool loc, .bool subsec, .int .i64 overflow, .bool failed] 53) := by
  have HV : Hid (∀ w, Calls Try.prog 38 #[.int .i64 jd] w fun e w' => e = .returned (.bool true) ∧ w = w') := fun w => valid_yes jd w h1 h2
  have bZ1 : 0 ≤ Z := by omega
  have bZ2 : Z ≤ 5373484 := by omega
  obtain ⟨r1, r2, f1, f2, f3⟩ := Flt.civ_a Z bZ1 bZ2
  obtain ⟨r3, r4, f4, f5, f6⟩ := Flt.civ_c B bB1 bB2
  obtain ⟨r5, f7, f8⟩ := Flt.civ_e (B - D) bD1 bD2
  obtain ⟨r6, f9, f10⟩ := Flt.civ_m E (by omega) (by omega)
  have p1 : ∀ t w, (binOp .sub t (.float .f64 (floatOfInt .f64 Z)) (.float .f64 4700770444448366592)).run Try.prog w = .ok (.float .f64 r1) w := fun t w => run_float_arith w .sub t .f64 _ _ r1 f1
  have p2 : ∀ t w, (binOp .quo t (.float .f64 r1) (.float .f64 4675252668279554048)).run Try.prog w = .ok (.float .f64 r2) w := fun t w => run_float_arith w .quo t .f64 _ _ r2 f2
  have p3 : ∀ w, (convert 28 3 (.float .f64 r2)).run Try.prog w = .ok (.int .i64 A) w := fun w => run_convert_float_int w 28 3 .f64 .i64 r2 A (by rw [Try.underlying28]; rfl) Try.underlying3 (by rw [f3, hA])
  have p4 : ∀ t w, (binOp .sub t (.float .f64 (floatOfInt .f64 B)) (.float .f64 4638292440600962662)).run Try.prog w = .ok (.float .f64 r3) w := fun t w => run_float_arith w .sub t .f64 _ _ r3 f4
  have p5 : ∀ t w, (binOp .quo t (.float .f64 r3) (.float .f64 4645133162144333824)).run Try.prog w = .ok (.float .f64 r4) w := fun t w => run_float_arith w .quo t .f64 _ _ r4 f5
  have p6 : ∀ w, (convert 28 3 (.float .f64 r4)).run Try.prog w = .ok (.int .i64 C) w := fun w => run_convert_float_int w 28 3 .f64 .i64 r4 C (by rw [Try.underlying28]; rfl) Try.underlying3 (by rw [f6, hC])
  have p7 : ∀ t w, (binOp .quo t (.float .f64 (floatOfInt .f64 (B - D))) (.float .f64 4629306380116972641)).run Try.prog w = .ok (.float .f64 r5) w := fun t w => run_float_arith w .quo t .f64 _ _ r5 f7
  have p8 : ∀ w, (convert 28 3 (.float .f64 r5)).run Try.prog w = .ok (.int .i64 E) w := fun w => run_convert_float_int w 28 3 .f64 .i64 r5 E (by rw [Try.underlying28]; rfl) Try.underlying3 (by rw [f8, hE])
  have p9 : ∀ t w, (binOp .mul t (.float .f64 4629306380116972641) (.float .f64 (floatOfInt .f64 E))).run Try.prog w = .ok (.float .f64 r6) w := fun t w => run_float_arith w .mul t .f64 _ _ r6 f9
  have p10 : ∀ w, (convert 28 3 (.float .f64 r6)).run Try.prog w = .ok (.int .i64 (306001 * E / 10000)) w := fun w => run_convert_float_int w 28 3 .f64 .i64 r6 _ (by rw [Try.underlying28]; rfl) Try.underlying3 f10
  have hand := and_low C bC1 bC2
  have HZ : Hid (Z = (jd + 43200000) / 86400000) := hZ
  have HB : Hid (B = Z + 1 + A - A.tdiv 4 + 1524) := hB
  have HD : Hid (D = 36525 * C / 100) := hD
  clear hZ hA hB hC hD hE f1 f2 f3 f4 f5 f6 f7 f8 f9 f10
  go_enter Try.func34, Try.ntmps34
  go_upto_region 0 with (go_at_call 38; refine (HV.out _).mono ?_; rintro e w' ⟨rfl, rfl⟩)
  go_cut [2] (fun a wx => a = .int .i64 Z ∧ wx = W.alloc (.cells #[.int .i64 jd, .bool true, .int .i64 year, .int .i64 month, .int .i64 day, .bool false, .int .i64 hour, .int .i64 minute, .float .f64 second, .bool hasClock, .float .f64 number, .bool isNumber, .int .i64 zone, .bool utc, .bool loc, .bool subsec, .int .i64 overflow, .bool failed] 53))
  case first =>
    go_wp2_with fail
    go_meet
    case rel => exact ⟨val_i64 HZ.out.symm, rfl⟩
  case rest =>
    obtain ⟨rfl, rfl⟩ := hcut
    go_upto_region 3 with fail
    go_cut [4] (fun a wx => a = .int .i64 B ∧ wx = W.alloc (.cells #[.int .i64 jd, .bool true, .int .i64 year, .int .i64 month, .int .i64 day, .bool false, .int .i64 hour, .int .i64 minute, .float .f64 second, .bool hasClock, .float .f64 number, .bool isNumber, .int .i64 zone, .bool utc, .bool loc, .bool subsec, .int .i64 overflow, .bool failed] 53))
    case first =>
      go_wp2_with fail
      go_meet
      case rel => exact ⟨val_i64 HB.out.symm, rfl⟩
    case rest =>
      obtain ⟨rfl, rfl⟩ := hcut
      go_upto_region 5 with fail
      go_cut [6] (fun a wx => a = .int .i64 D ∧ wx = W.alloc (.cells #[.int .i64 jd, .bool true, .int .i64 year, .int .i64 month, .int .i64 day, .bool false, .int .i64 hour, .int .i64 minute, .float .f64 second, .bool hasClock, .float .f64 number, .bool isNumber, .int .i64 zone, .bool utc, .bool loc, .bool subsec, .int .i64 overflow, .bool failed] 53))
      case first =>
        go_wp2_with fail
        go_meet
        case rel => exact ⟨val_i64 (by rw [HD.out]; first | done | omega), rfl⟩
      case rest =>
        obtain ⟨rfl, rfl⟩ := hcut
        go_wp2
        go_end0
        exact ⟨rfl, rfl⟩

set_option maxHeartbeats 1000000 in
set_option maxRecDepth 10000 in
theorem civil_main2 (jd year month day hour minute zone overflow : Int) (second number : Nat) (hasClock isNumber utc loc subsec failed : Bool) (W : World) (h1 : 0 ≤ jd) (h2 : jd ≤ 464269060799999)
    (Z A B C D E : Int) (hZ : Z = (jd + 43200000) / 86400000) (hA : A = (4 * Z - 7468865).tdiv 146097) (hB : B = Z + 1 + A - A.tdiv 4 + 1524) (hC : C = (20 * B - 2442) / 7305) (hD : D = 36525 * C / 100) (hE : E = (B - D) * 10000 / 306001)
    (bA1 : -60 ≤ A) (bA2 : A ≤ 100) (bT1 : -20 ≤ A.tdiv 4) (bT2 : A.tdiv 4 ≤ 30) (bB1 : 1000 ≤ B) (bB2 : B ≤ 6000000) (bC1 : 0 ≤ C) (bC2 : C < 32768) (bD1 : 0 ≤ B - D) (bD2 : B - D < 500) (bE1 : 14 ≤ E ∧ E ≤ 15) :
    Calls Try.prog 34 #[.pointer (some ⟨W.heap.size, 0, none⟩)] (W.alloc (.cells #[.int .i64 jd, .bool true, .int .i64 year, .int .i64 month, .int .i64 day, .bool false, .int .i64 hour, .int .i64 minute, .float .f64 second, .bool hasClock, .float .f64 number, .bool isNumber, .int .i64 zone, .bool utc, .bool loc, .bool subsec, .int .i64 overflow, .bool failed] 53))
    fun e w' => e = .returned (.tuple #[]) ∧ w' = W.alloc (.cells #[.int .i64 jd, .bool true, .int .i64 (C - 4715), .int .i64 (E - 13), .int .i64 (B - D - 306001 * E / 10000), .bool true, .int .i64 hour, .int .i64 minute, .float .f64 second, .bool hasClock, .float .f64 number, .bool isNumber, .int .i64 zone, .bool utc, .bool loc, .bool subsec, .int .i64 overflow, .bool failed] 53) := by
  have HV : Hid (∀ w, Calls Try.prog 38 #[.int .i64 jd] w fun e w' => e = .returned (.bool true) ∧ w = w') := fun w => valid_yes jd w h1 h2
  have bZ1 : 0 ≤ Z := by omega
  have bZ2 : Z ≤ 5373484 := by omega
  obtain ⟨r1, r2, f1, f2, f3⟩ := Flt.civ_a Z bZ1 bZ2
  obtain ⟨r3, r4, f4, f5, f6⟩ := Flt.civ_c B bB1 bB2
  obtain ⟨r5, f7, f8⟩ := Flt.civ_e (B - D) bD1 bD2
  obtain ⟨r6, f9, f10⟩ := Flt.civ_m E (by omega) (by omega)
  have p1 : ∀ t w, (binOp .sub t (.float .f64 (floatOfInt .f64 Z)) (.float .f64 4700770444448366592)).run Try.prog w = .ok (.float .f64 r1) w := fun t w => run_float_arith w .sub t .f64 _ _ r1 f1
  have p2 : ∀ t w, (binOp .quo t (.float .f64 r1) (.float .f64 4675252668279554048)).run Try.prog w = .ok (.float .f64 r2) w := fun t w => run_float_arith w .quo t .f64 _ _ r2 f2
  have p3 : ∀ w, (convert 28 3 (.float .f64 r2)).run Try.prog w = .ok (.int .i64 A) w := fun w => run_convert_float_int w 28 3 .f64 .i64 r2 A (by rw [Try.underlying28]; rfl) Try.underlying3 (by rw [f3, hA])
  have p4 : ∀ t w, (binOp .sub t (.float .f64 (floatOfInt .f64 B)) (.float .f64 4638292440600962662)).run Try.prog w = .ok (.float .f64 r3) w := fun t w => run_float_arith w .sub t .f64 _ _ r3 f4
  have p5 : ∀ t w, (binOp .quo t (.float .f64 r3) (.float .f64 4645133162144333824)).run Try.prog w = .ok (.float .f64 r4) w := fun t w => run_float_arith w .quo t .f64 _ _ r4 f5
  have p6 : ∀ w, (convert 28 3 (.float .f64 r4)).run Try.prog w = .ok (.int .i64 C) w := fun w => run_convert_float_int w 28 3 .f64 .i64 r4 C (by rw [Try.underlying28]; rfl) Try.underlying3 (by rw [f6, hC])
  have p7 : ∀ t w, (binOp .quo t (.float .f64 (floatOfInt .f64 (B - D))) (.float .f64 4629306380116972641)).run Try.prog w = .ok (.float .f64 r5) w := fun t w => run_float_arith w .quo t .f64 _ _ r5 f7
  have p8 : ∀ w, (convert 28 3 (.float .f64 r5)).run Try.prog w = .ok (.int .i64 E) w := fun w => run_convert_float_int w 28 3 .f64 .i64 r5 E (by rw [Try.underlying28]; rfl) Try.underlying3 (by rw [f8, hE])
  have p9 : ∀ t w, (binOp .mul t (.float .f64 4629306380116972641) (.float .f64 (floatOfInt .f64 E))).run Try.prog w = .ok (.float .f64 r6) w := fun t w => run_float_arith w .mul t .f64 _ _ r6 f9
  have p10 : ∀ w, (convert 28 3 (.float .f64 r6)).run Try.prog w = .ok (.int .i64 (306001 * E / 10000)) w := fun w => run_convert_float_int w 28 3 .f64 .i64 r6 _ (by rw [Try.underlying28]; rfl) Try.underlying3 f10
  have hand := and_low C bC1 bC2
  have HZ : Hid (Z = (jd + 43200000) / 86400000) := hZ
  have HB : Hid (B = Z + 1 + A - A.tdiv 4 + 1524) := hB
  have HD : Hid (D = 36525 * C / 100) := hD
  clear hZ hA hB hC hD hE f1 f2 f3 f4 f5 f6 f7 f8 f9 f10
  go_enter Try.func34, Try.ntmps34
  go_upto_region 0 with (go_at_call 38; refine (HV.out _).mono ?_; rintro e w' ⟨rfl, rfl⟩)
  go_cut [2] (fun a wx => a = .int .i64 Z ∧ wx = W.alloc (.cells #[.int .i64 jd, .bool true, .int .i64 year, .int .i64 month, .int .i64 day, .bool false, .int .i64 hour, .int .i64 minute, .float .f64 second, .bool hasClock, .float .f64 number, .bool isNumber, .int .i64 zone, .bool utc, .bool loc, .bool subsec, .int .i64 overflow, .bool failed] 53))
  case first =>
    go_wp2_with fail
    go_meet
    case rel => exact ⟨val_i64 HZ.out.symm, rfl⟩
  case rest =>
    obtain ⟨rfl, rfl⟩ := hcut
    go_upto_region 3 with fail
    go_cut [4] (fun a wx => a = .int .i64 B ∧ wx = W.alloc (.cells #[.int .i64 jd, .bool true, .int .i64 year, .int .i64 month, .int .i64 day, .bool false, .int .i64 hour, .int .i64 minute, .float .f64 second, .bool hasClock, .float .f64 number, .bool isNumber, .int .i64 zone, .bool utc, .bool loc, .bool subsec, .int .i64 overflow, .bool failed] 53))
    case first =>
      go_wp2_with fail
      go_meet
      case rel => exact ⟨val_i64 HB.out.symm, rfl⟩
    case rest =>
      obtain ⟨rfl, rfl⟩ := hcut
      go_upto_region 5 with fail
      go_cut [6] (fun a wx => a = .int .i64 D ∧ wx = W.alloc (.cells #[.int .i64 jd, .bool true, .int .i64 year, .int .i64 month, .int .i64 day, .bool false, .int .i64 hour, .int .i64 minute, .float .f64 second, .bool hasClock, .float .f64 number, .bool isNumber, .int .i64 zone, .bool utc, .bool loc, .bool subsec, .int .i64 overflow, .bool failed] 53))
      case first =>
        go_wp2_with fail
        go_meet
        case rel => exact ⟨val_i64 (by rw [HD.out]; first | done | omega), rfl⟩
      case rest =>
        obtain ⟨rfl, rfl⟩ := hcut
        go_wp2
        go_end0
        exact ⟨rfl, rfl⟩

end Go.Proofs.Qxb6604200a
