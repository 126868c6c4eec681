/-
  The walk of julian where a time of day is given.
-/
import Derived.Test.Qxb6604200aJulianWalk
import Derived.Test.Qxb6604200aFieldRead
import Derived.StillTailTactics
namespace Go.Proofs.Qxb6604200a
open Go.RowKit
attribute [local go_sem] run_store_float setCell_drewN alloc_drewN

theorem region_tailN {P : Program} {id : Nat} {Q : Exit → Act → World → Prop} {a : Act} {W : World} {k : Nat} {l : List Oper} (n : Nat) (hm : P.follows .mixedOrders = true) (hB : Region.lexTailB .any l.toArray n = true)
    (h : wpStill P l.toArray (W.drewN (k + 1)) (fun a' => wpList P l.toArray Q (l.drop n) a' (W.drewN (k + 1))) (l.take n) a) : (Code.region id l.toArray true).wp P Q a (W.drewN k) := wp_region_still_tail n hm hB h

theorem cell_N (W : World) (D : Array Value) (t : TypeId) (k i : Nat) (v : Value) (h : D[i]? = some v) : ((W.alloc (.cells D t)).drewN k).cell? ⟨W.heap.size, i, none⟩ = some v := by
  have e : ((W.alloc (.cells D t)).drewN k).heap[W.heap.size]? = some (.cells D t) := heap_new W _
  unfold World.cell?
  rw [e]
  exact h

set_option maxHeartbeats 1000000 in
set_option maxRecDepth 10000 in
theorem julian_clock0 (jd year month day hour minute zone overflow : Int) (second number : Nat) (hasDate utc loc subsec failed : Bool) (W : World) (Ys Ms Ds Yp Mp DD : Int) (hst : (hasDate = true ∧ Ys = year ∧ Ms = month ∧ Ds = day) ∨ (hasDate = false ∧ Ys = 2000 ∧ Ms = 1 ∧ Ds = 1)) (y1 : -4713 ≤ Ys) (y2 : Ys ≤ 9999) (m1 : 1 ≤ Ms) (m2 : Ms ≤ 12) (d1 : -16777216 ≤ Ds) (d2 : Ds ≤ 16777216)
    (hp : (Ms ≤ 2 ∧ Yp = Ys - 1 ∧ Mp = Ms + 12) ∨ (2 < Ms ∧ Yp = Ys ∧ Mp = Ms)) (hDD : DD = 36525 * (Yp + 4716) / 100 + 306001 * (Mp + 1) / 10000 + Ds + (38 - (Yp + 4800) / 100 + (Yp + 4800) / 100 / 4)) (D1 : -30000000 ≤ DD) (D2 : DD ≤ 30000000) (r3 r4 : Nat) (V B : Int) (hB : Hid (B = (2 * DD - 3049) * 43200000)) (J : Int) (hJ : Hid (J = wrap64 (B + wrap64 (wrap64 (wrap64 (hour * 3600000) + wrap64 (minute * 60000)) + V)))) (fv1 : floatBits .mul .f64 second 4652007308841189376 = some r3) (fv2 : floatBits .add .f64 r3 4602678819172646912 = some r4) (fv3 : floatToIntVal .f64 r4 .i64 = some V) (hz : (zone != 0) = false) :
    Calls Try.prog 30 #[.pointer (some ⟨W.heap.size, 0, none⟩)] (W.alloc (.cells #[.int .i64 jd, .bool false, .int .i64 year, .int .i64 month, .int .i64 day, .bool hasDate, .int .i64 hour, .int .i64 minute, .float .f64 second, .bool true, .float .f64 number, .bool false, .int .i64 zone, .bool utc, .bool loc, .bool subsec, .int .i64 overflow, .bool failed] 53))
    fun e w' => e = .returned (.tuple #[]) ∧ ∃ k, w' = (W.alloc (.cells #[.int .i64 J, .bool true, .int .i64 year, .int .i64 month, .int .i64 day, .bool hasDate, .int .i64 hour, .int .i64 minute, .float .f64 second, .bool true, .float .f64 number, .bool false, .int .i64 zone, .bool utc, .bool loc, .bool subsec, .int .i64 overflow, .bool failed] 53)).drewN k := by
  have g4 : ∀ t w, (binOp .mul t (.float .f64 second) (.float .f64 4652007308841189376)).run Try.prog w = .ok (.float .f64 r3) w := fun t w => run_float_arith w .mul t .f64 _ _ r3 fv1
  have g5 : ∀ t w, (binOp .add t (.float .f64 r3) (.float .f64 4602678819172646912)).run Try.prog w = .ok (.float .f64 r4) w := fun t w => run_float_arith w .add t .f64 _ _ r4 fv2
  have g6 : ∀ w, (convert 28 2 (.float .f64 r4)).run Try.prog w = .ok (.int .i64 V) w := fun w => run_convert_float_int w 28 2 .f64 .i64 r4 _ (by rw [Try.underlying28]; rfl) Try.underlying2 fv3
  clear fv1 fv2 fv3
  have HST : Hid ((hasDate = true ∧ Ys = year ∧ Ms = month ∧ Ds = day) ∨ (hasDate = false ∧ Ys = 2000 ∧ Ms = 1 ∧ Ds = 1)) := hst
  clear hst
  have HP : Hid ((Ms ≤ 2 ∧ Yp = Ys - 1 ∧ Mp = Ms + 12) ∨ (2 < Ms ∧ Yp = Ys ∧ Mp = Ms)) := hp
  have HD : Hid (DD = 36525 * (Yp + 4716) / 100 + 306001 * (Mp + 1) / 10000 + Ds + (38 - (Yp + 4800) / 100 + (Yp + 4800) / 100 / 4)) := hDD
  have p1 : -4714 ≤ Yp := by omega
  have p2 : Yp ≤ 9999 := by omega
  have p3 : 3 ≤ Mp := by omega
  have p4 : Mp ≤ 14 := by omega
  clear hp hDD
  obtain ⟨r1, r2, f1, f2, f3⟩ := Flt.jul_ms DD D1 D2
  have g1 : ∀ t w, (binOp .sub t (.float .f64 (floatOfInt .f64 DD)) (.float .f64 4654419637352529920)).run Try.prog w = .ok (.float .f64 r1) w := fun t w => run_float_arith w .sub t .f64 _ _ r1 f1
  have g2 : ∀ t w, (binOp .mul t (.float .f64 r1) (.float .f64 4725570615333879808)).run Try.prog w = .ok (.float .f64 r2) w := fun t w => run_float_arith w .mul t .f64 _ _ r2 f2
  have g3 : ∀ w, (convert 28 2 (.float .f64 r2)).run Try.prog w = .ok (.int .i64 ((2 * DD - 3049) * 43200000)) w := fun w => run_convert_float_int w 28 2 .f64 .i64 r2 _ (by rw [Try.underlying28]; rfl) Try.underlying2 f3
  clear f1 f2 f3
  go_enter Try.func30, Try.ntmps30
  go_upto_if 15 with fail
  go_cut [2, 3, 4] (fun a b c wx => a = .int .i64 Ys ∧ b = .int .i64 Ms ∧ c = .int .i64 Ds ∧ ∃ k, wx = (W.alloc (.cells #[.int .i64 jd, .bool false, .int .i64 year, .int .i64 month, .int .i64 day, .bool hasDate, .int .i64 hour, .int .i64 minute, .float .f64 second, .bool true, .float .f64 number, .bool false, .int .i64 zone, .bool utc, .bool loc, .bool subsec, .int .i64 overflow, .bool failed] 53)).drewN k)
  case first =>
    rcases HST.out with ⟨rfl, rfl, rfl, rfl⟩ | ⟨rfl, rfl, rfl, rfl⟩
    · go_wp2_with fail
      go_quiet (fail)
      go_wp2_with fail
      go_meet
      case rel => exact ⟨rfl, rfl, rfl, _, rfl⟩
    · go_wp2_with fail
      go_meet
      case rel => exact ⟨rfl, rfl, rfl, 0, rfl⟩
  case rest =>
    obtain ⟨rfl, rfl, rfl, k, rfl⟩ := hcut
    go_upto_if 43 with fail
    go_cut [2, 3] (fun a b wx => a = .int .i64 Yp ∧ b = .int .i64 Mp ∧ wx = (W.alloc (.cells #[.int .i64 jd, .bool false, .int .i64 year, .int .i64 month, .int .i64 day, .bool hasDate, .int .i64 hour, .int .i64 minute, .float .f64 second, .bool true, .float .f64 number, .bool false, .int .i64 zone, .bool utc, .bool loc, .bool subsec, .int .i64 overflow, .bool failed] 53)).drewN k)
    case first =>
      rcases HP.out with ⟨c, rfl, rfl⟩ | ⟨c, rfl, rfl⟩
      · go_wp2_with fail
        go_meet
        case rel => exact ⟨rfl, rfl, rfl⟩
      · go_wp2_with fail
        go_meet
        case rel => exact ⟨rfl, rfl, rfl⟩
    case rest =>
      obtain ⟨rfl, rfl, rfl⟩ := hcut
      go_upto_region 11 with fail
      go_cut [7] (fun a wx => a = .int .i64 DD ∧ wx = (W.alloc (.cells #[.int .i64 jd, .bool false, .int .i64 year, .int .i64 month, .int .i64 day, .bool hasDate, .int .i64 hour, .int .i64 minute, .float .f64 second, .bool true, .float .f64 number, .bool false, .int .i64 zone, .bool utc, .bool loc, .bool subsec, .int .i64 overflow, .bool failed] 53)).drewN k)
      case first =>
        go_wp2_with fail
        go_meet
        case rel => exact ⟨val_i64' (by rw [HD.out]), rfl⟩
      case rest =>
        obtain ⟨rfl, rfl⟩ := hcut
        go_upto_region 12 with fail
        go_cut [76] (fun a wx => wx = (W.alloc (.cells #[.int .i64 B, .bool false, .int .i64 year, .int .i64 month, .int .i64 day, .bool hasDate, .int .i64 hour, .int .i64 minute, .float .f64 second, .bool true, .float .f64 number, .bool false, .int .i64 zone, .bool utc, .bool loc, .bool subsec, .int .i64 overflow, .bool failed] 53)).drewN k)
        case first =>
          go_wp2_with fail
          go_meet
          case rel => rw [hB.out]
        case rest =>
        obtain rfl := hcut
        clear g1 g2 g3 HD HP
        go_upto_region 15 with fail
        go_cut [108] (fun a wx => wx = (W.alloc (.cells #[.int .i64 J, .bool true, .int .i64 year, .int .i64 month, .int .i64 day, .bool hasDate, .int .i64 hour, .int .i64 minute, .float .f64 second, .bool true, .float .f64 number, .bool false, .int .i64 zone, .bool utc, .bool loc, .bool subsec, .int .i64 overflow, .bool failed] 53)).drewN (k + 1))
        case first =>
          have hc0 := cell_N W #[.int .i64 B, .bool true, .int .i64 year, .int .i64 month, .int .i64 day, .bool hasDate, .int .i64 hour, .int .i64 minute, .float .f64 second, .bool true, .float .f64 number, .bool false, .int .i64 zone, .bool utc, .bool loc, .bool subsec, .int .i64 overflow, .bool failed] 53 (k + 1) 0 _ rfl
          have hc6 := cell_N W #[.int .i64 B, .bool true, .int .i64 year, .int .i64 month, .int .i64 day, .bool hasDate, .int .i64 hour, .int .i64 minute, .float .f64 second, .bool true, .float .f64 number, .bool false, .int .i64 zone, .bool utc, .bool loc, .bool subsec, .int .i64 overflow, .bool failed] 53 (k + 1) 6 _ rfl
          have hc7 := cell_N W #[.int .i64 B, .bool true, .int .i64 year, .int .i64 month, .int .i64 day, .bool hasDate, .int .i64 hour, .int .i64 minute, .float .f64 second, .bool true, .float .f64 number, .bool false, .int .i64 zone, .bool utc, .bool loc, .bool subsec, .int .i64 overflow, .bool failed] 53 (k + 1) 7 _ rfl
          have hc8 := cell_N W #[.int .i64 B, .bool true, .int .i64 year, .int .i64 month, .int .i64 day, .bool hasDate, .int .i64 hour, .int .i64 minute, .float .f64 second, .bool true, .float .f64 number, .bool false, .int .i64 zone, .bool utc, .bool loc, .bool subsec, .int .i64 overflow, .bool failed] 53 (k + 1) 8 _ rfl
          refine region_tailN 26 (Checked.mixed Try.checked) (by as_aux_lemma => kernel_rfl) ?_
          simp only [List.take_succ_cons, List.take_zero, List.drop_succ_cons, List.drop_zero]
          repeat still_step
          refine wpStill_nil ?_
          clear hc0 hc6 hc7 hc8
          go_wp2_with fail
          go_meet
          case rel => rw [hJ.out]
        case rest =>
        obtain rfl := hcut
        clear g4 g5 g6
        go_wp2
        go_end0
        exact ⟨rfl, _, rfl⟩

set_option maxHeartbeats 1000000 in
set_option maxRecDepth 10000 in
theorem julian_clock1 (jd year month day hour minute zone overflow : Int) (second number : Nat) (hasDate utc loc subsec failed : Bool) (W : World) (Ys Ms Ds Yp Mp DD : Int) (hst : (hasDate = true ∧ Ys = year ∧ Ms = month ∧ Ds = day) ∨ (hasDate = false ∧ Ys = 2000 ∧ Ms = 1 ∧ Ds = 1)) (y1 : -4713 ≤ Ys) (y2 : Ys ≤ 9999) (m1 : 1 ≤ Ms) (m2 : Ms ≤ 12) (d1 : -16777216 ≤ Ds) (d2 : Ds ≤ 16777216)
    (hp : (Ms ≤ 2 ∧ Yp = Ys - 1 ∧ Mp = Ms + 12) ∨ (2 < Ms ∧ Yp = Ys ∧ Mp = Ms)) (hDD : DD = 36525 * (Yp + 4716) / 100 + 306001 * (Mp + 1) / 10000 + Ds + (38 - (Yp + 4800) / 100 + (Yp + 4800) / 100 / 4)) (D1 : -30000000 ≤ DD) (D2 : DD ≤ 30000000) (r3 r4 : Nat) (V B : Int) (hB : Hid (B = (2 * DD - 3049) * 43200000)) (J : Int) (hJ : Hid (J = wrap64 (B + wrap64 (wrap64 (wrap64 (hour * 3600000) + wrap64 (minute * 60000)) + V)))) (fv1 : floatBits .mul .f64 second 4652007308841189376 = some r3) (fv2 : floatBits .add .f64 r3 4602678819172646912 = some r4) (fv3 : floatToIntVal .f64 r4 .i64 = some V) (J2 : Int) (hJ2 : Hid (J2 = wrap64 (J - wrap64 (zone * 60000)))) (hz : (zone != 0) = true) :
    Calls Try.prog 30 #[.pointer (some ⟨W.heap.size, 0, none⟩)] (W.alloc (.cells #[.int .i64 jd, .bool false, .int .i64 year, .int .i64 month, .int .i64 day, .bool hasDate, .int .i64 hour, .int .i64 minute, .float .f64 second, .bool true, .float .f64 number, .bool false, .int .i64 zone, .bool utc, .bool loc, .bool subsec, .int .i64 overflow, .bool failed] 53))
    fun e w' => e = .returned (.tuple #[]) ∧ ∃ k, w' = (W.alloc (.cells #[.int .i64 J2, .bool true, .int .i64 year, .int .i64 month, .int .i64 day, .bool false, .int .i64 hour, .int .i64 minute, .float .f64 second, .bool false, .float .f64 number, .bool false, .int .i64 0, .bool true, .bool false, .bool subsec, .int .i64 overflow, .bool failed] 53)).drewN k := by
  have g4 : ∀ t w, (binOp .mul t (.float .f64 second) (.float .f64 4652007308841189376)).run Try.prog w = .ok (.float .f64 r3) w := fun t w => run_float_arith w .mul t .f64 _ _ r3 fv1
  have g5 : ∀ t w, (binOp .add t (.float .f64 r3) (.float .f64 4602678819172646912)).run Try.prog w = .ok (.float .f64 r4) w := fun t w => run_float_arith w .add t .f64 _ _ r4 fv2
  have g6 : ∀ w, (convert 28 2 (.float .f64 r4)).run Try.prog w = .ok (.int .i64 V) w := fun w => run_convert_float_int w 28 2 .f64 .i64 r4 _ (by rw [Try.underlying28]; rfl) Try.underlying2 fv3
  clear fv1 fv2 fv3
  have HST : Hid ((hasDate = true ∧ Ys = year ∧ Ms = month ∧ Ds = day) ∨ (hasDate = false ∧ Ys = 2000 ∧ Ms = 1 ∧ Ds = 1)) := hst
  clear hst
  have HP : Hid ((Ms ≤ 2 ∧ Yp = Ys - 1 ∧ Mp = Ms + 12) ∨ (2 < Ms ∧ Yp = Ys ∧ Mp = Ms)) := hp
  have HD : Hid (DD = 36525 * (Yp + 4716) / 100 + 306001 * (Mp + 1) / 10000 + Ds + (38 - (Yp + 4800) / 100 + (Yp + 4800) / 100 / 4)) := hDD
  have p1 : -4714 ≤ Yp := by omega
  have p2 : Yp ≤ 9999 := by omega
  have p3 : 3 ≤ Mp := by omega
  have p4 : Mp ≤ 14 := by omega
  clear hp hDD
  obtain ⟨r1, r2, f1, f2, f3⟩ := Flt.jul_ms DD D1 D2
  have g1 : ∀ t w, (binOp .sub t (.float .f64 (floatOfInt .f64 DD)) (.float .f64 4654419637352529920)).run Try.prog w = .ok (.float .f64 r1) w := fun t w => run_float_arith w .sub t .f64 _ _ r1 f1
  have g2 : ∀ t w, (binOp .mul t (.float .f64 r1) (.float .f64 4725570615333879808)).run Try.prog w = .ok (.float .f64 r2) w := fun t w => run_float_arith w .mul t .f64 _ _ r2 f2
  have g3 : ∀ w, (convert 28 2 (.float .f64 r2)).run Try.prog w = .ok (.int .i64 ((2 * DD - 3049) * 43200000)) w := fun w => run_convert_float_int w 28 2 .f64 .i64 r2 _ (by rw [Try.underlying28]; rfl) Try.underlying2 f3
  clear f1 f2 f3
  go_enter Try.func30, Try.ntmps30
  go_upto_if 15 with fail
  go_cut [2, 3, 4] (fun a b c wx => a = .int .i64 Ys ∧ b = .int .i64 Ms ∧ c = .int .i64 Ds ∧ ∃ k, wx = (W.alloc (.cells #[.int .i64 jd, .bool false, .int .i64 year, .int .i64 month, .int .i64 day, .bool hasDate, .int .i64 hour, .int .i64 minute, .float .f64 second, .bool true, .float .f64 number, .bool false, .int .i64 zone, .bool utc, .bool loc, .bool subsec, .int .i64 overflow, .bool failed] 53)).drewN k)
  case first =>
    rcases HST.out with ⟨rfl, rfl, rfl, rfl⟩ | ⟨rfl, rfl, rfl, rfl⟩
    · go_wp2_with fail
      go_quiet (fail)
      go_wp2_with fail
      go_meet
      case rel => exact ⟨rfl, rfl, rfl, _, rfl⟩
    · go_wp2_with fail
      go_meet
      case rel => exact ⟨rfl, rfl, rfl, 0, rfl⟩
  case rest =>
    obtain ⟨rfl, rfl, rfl, k, rfl⟩ := hcut
    go_upto_if 43 with fail
    go_cut [2, 3] (fun a b wx => a = .int .i64 Yp ∧ b = .int .i64 Mp ∧ wx = (W.alloc (.cells #[.int .i64 jd, .bool false, .int .i64 year, .int .i64 month, .int .i64 day, .bool hasDate, .int .i64 hour, .int .i64 minute, .float .f64 second, .bool true, .float .f64 number, .bool false, .int .i64 zone, .bool utc, .bool loc, .bool subsec, .int .i64 overflow, .bool failed] 53)).drewN k)
    case first =>
      rcases HP.out with ⟨c, rfl, rfl⟩ | ⟨c, rfl, rfl⟩
      · go_wp2_with fail
        go_meet
        case rel => exact ⟨rfl, rfl, rfl⟩
      · go_wp2_with fail
        go_meet
        case rel => exact ⟨rfl, rfl, rfl⟩
    case rest =>
      obtain ⟨rfl, rfl, rfl⟩ := hcut
      go_upto_region 11 with fail
      go_cut [7] (fun a wx => a = .int .i64 DD ∧ wx = (W.alloc (.cells #[.int .i64 jd, .bool false, .int .i64 year, .int .i64 month, .int .i64 day, .bool hasDate, .int .i64 hour, .int .i64 minute, .float .f64 second, .bool true, .float .f64 number, .bool false, .int .i64 zone, .bool utc, .bool loc, .bool subsec, .int .i64 overflow, .bool failed] 53)).drewN k)
      case first =>
        go_wp2_with fail
        go_meet
        case rel => exact ⟨val_i64' (by rw [HD.out]), rfl⟩
      case rest =>
        obtain ⟨rfl, rfl⟩ := hcut
        go_upto_region 12 with fail
        go_cut [76] (fun a wx => wx = (W.alloc (.cells #[.int .i64 B, .bool false, .int .i64 year, .int .i64 month, .int .i64 day, .bool hasDate, .int .i64 hour, .int .i64 minute, .float .f64 second, .bool true, .float .f64 number, .bool false, .int .i64 zone, .bool utc, .bool loc, .bool subsec, .int .i64 overflow, .bool failed] 53)).drewN k)
        case first =>
          go_wp2_with fail
          go_meet
          case rel => rw [hB.out]
        case rest =>
        obtain rfl := hcut
        clear g1 g2 g3 HD HP
        go_upto_region 15 with fail
        go_cut [108] (fun a wx => wx = (W.alloc (.cells #[.int .i64 J, .bool true, .int .i64 year, .int .i64 month, .int .i64 day, .bool hasDate, .int .i64 hour, .int .i64 minute, .float .f64 second, .bool true, .float .f64 number, .bool false, .int .i64 zone, .bool utc, .bool loc, .bool subsec, .int .i64 overflow, .bool failed] 53)).drewN (k + 1))
        case first =>
          have hc0 := cell_N W #[.int .i64 B, .bool true, .int .i64 year, .int .i64 month, .int .i64 day, .bool hasDate, .int .i64 hour, .int .i64 minute, .float .f64 second, .bool true, .float .f64 number, .bool false, .int .i64 zone, .bool utc, .bool loc, .bool subsec, .int .i64 overflow, .bool failed] 53 (k + 1) 0 _ rfl
          have hc6 := cell_N W #[.int .i64 B, .bool true, .int .i64 year, .int .i64 month, .int .i64 day, .bool hasDate, .int .i64 hour, .int .i64 minute, .float .f64 second, .bool true, .float .f64 number, .bool false, .int .i64 zone, .bool utc, .bool loc, .bool subsec, .int .i64 overflow, .bool failed] 53 (k + 1) 6 _ rfl
          have hc7 := cell_N W #[.int .i64 B, .bool true, .int .i64 year, .int .i64 month, .int .i64 day, .bool hasDate, .int .i64 hour, .int .i64 minute, .float .f64 second, .bool true, .float .f64 number, .bool false, .int .i64 zone, .bool utc, .bool loc, .bool subsec, .int .i64 overflow, .bool failed] 53 (k + 1) 7 _ rfl
          have hc8 := cell_N W #[.int .i64 B, .bool true, .int .i64 year, .int .i64 month, .int .i64 day, .bool hasDate, .int .i64 hour, .int .i64 minute, .float .f64 second, .bool true, .float .f64 number, .bool false, .int .i64 zone, .bool utc, .bool loc, .bool subsec, .int .i64 overflow, .bool failed] 53 (k + 1) 8 _ rfl
          refine region_tailN 26 (Checked.mixed Try.checked) (by as_aux_lemma => kernel_rfl) ?_
          simp only [List.take_succ_cons, List.take_zero, List.drop_succ_cons, List.drop_zero]
          repeat still_step
          refine wpStill_nil ?_
          clear hc0 hc6 hc7 hc8
          go_wp2_with fail
          go_meet
          case rel => rw [hJ.out]
        case rest =>
        obtain rfl := hcut
        clear g4 g5 g6
        go_upto_region 17 with fail
        go_cut [125] (fun a wx => wx = (W.alloc (.cells #[.int .i64 J2, .bool true, .int .i64 year, .int .i64 month, .int .i64 day, .bool hasDate, .int .i64 hour, .int .i64 minute, .float .f64 second, .bool true, .float .f64 number, .bool false, .int .i64 zone, .bool utc, .bool loc, .bool subsec, .int .i64 overflow, .bool failed] 53)).drewN (k + 1 + 1))
        case first =>
          have hc0 := cell_N W #[.int .i64 J, .bool true, .int .i64 year, .int .i64 month, .int .i64 day, .bool hasDate, .int .i64 hour, .int .i64 minute, .float .f64 second, .bool true, .float .f64 number, .bool false, .int .i64 zone, .bool utc, .bool loc, .bool subsec, .int .i64 overflow, .bool failed] 53 (k + 1 + 1) 0 _ rfl
          have hc12 := cell_N W #[.int .i64 J, .bool true, .int .i64 year, .int .i64 month, .int .i64 day, .bool hasDate, .int .i64 hour, .int .i64 minute, .float .f64 second, .bool true, .float .f64 number, .bool false, .int .i64 zone, .bool utc, .bool loc, .bool subsec, .int .i64 overflow, .bool failed] 53 (k + 1 + 1) 12 _ rfl
          refine region_tailN 12 (Checked.mixed Try.checked) (by as_aux_lemma => kernel_rfl) ?_
          simp only [List.take_succ_cons, List.take_zero, List.drop_succ_cons, List.drop_zero]
          repeat still_step
          refine wpStill_nil ?_
          clear hc0 hc12
          go_wp2_with fail
          go_meet
          case rel => rw [hJ2.out]
        case rest =>
        obtain rfl := hcut
        go_wp2
        go_end0
        exact ⟨rfl, _, rfl⟩

end Go.Proofs.Qxb6604200a
