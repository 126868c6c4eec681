/-
  zzDaysFromCivil: the era algorithm's count of days.
-/
import Derived.Test.Qxb6604200aFromDays
namespace Go.Proofs.Qxb6604200a
open Go.RowKit

theorem era_floor400 {n E : Int} (h : n / 400 = E) (hn : n < 0) : (n - 399).tdiv 400 = E := by
  have e : n - 399 = -(399 - n) := by omega
  rw [e, Int.neg_tdiv, Int.tdiv_eq_ediv_of_nonneg (by omega)]
  omega

set_option maxHeartbeats 1000000 in
set_option maxRecDepth 10000 in
theorem daysFrom_walk (y m Yv E u M G N : Int) (w : World) (y1 : -4713 ≤ y) (y2 : y ≤ 9999) (m1 : 1 ≤ m) (m2 : m ≤ 12) (hp : Hid ((m ≤ 2 ∧ Yv = y - 1 ∧ M = m + 9) ∨ (2 < m ∧ Yv = y ∧ M = m - 3)))
    (v1 : -4714 ≤ Yv) (v2 : Yv ≤ 9999) (hE : Hid (Yv / 400 = E)) (E1 : -20 ≤ E) (E2 : E ≤ 40) (hu : Hid (Yv - E * 400 = u)) (u0 : 0 ≤ u) (u1 : u ≤ 399) (M0 : 0 ≤ M) (M1 : M ≤ 11) (hG : Hid ((153 * M + 2) / 5 = G)) (G0 : 0 ≤ G) (G1 : G ≤ 400)
    (hN : Hid (E * 146097 + (u * 365 + u / 4 - u / 100 + G) - 719468 = N)) :
    Calls Try.prog 33 #[.int .i64 y, .int .i64 m] w fun e w' => e = .returned (.int .i64 N) ∧ w = w' := by
  go_enter Try.func33, Try.ntmps33
  go_upto_if 11 with fail
  go_cut [0] (fun a wx => a = .int .i64 Yv ∧ w = wx)
  case first =>
    rcases hp.out with ⟨c, rfl, rfl⟩ | ⟨c, rfl, rfl⟩
    · go_wp2_with fail
      go_meet
      case rel => exact ⟨rfl, rfl⟩
    · go_wp2_with fail
      go_meet
      case rel => exact ⟨rfl, rfl⟩
  case rest =>
    obtain ⟨rfl, rfl⟩ := hcut
    go_upto_if 15 with fail
    go_cut [5] (fun a wx => a = .int .i64 E ∧ w = wx)
    case first =>
      by_cases hn : 0 ≤ Yv
      · go_wp2_with fail
        go_meet
        case rel => exact ⟨val64 hE.out, rfl⟩
      · have hn' : Yv < 0 := by omega
        go_wp2_with fail
        go_meet
        case rel => exact ⟨val64 (era_floor400 hE.out hn'), rfl⟩
    case rest =>
      obtain ⟨rfl, rfl⟩ := hcut
      go_upto_region 7 with fail
      go_cut [6] (fun a wx => a = .int .i64 u ∧ w = wx)
      case first =>
        go_wp2_with fail
        go_meet
        case rel => exact ⟨val64 hu.out, rfl⟩
      case rest =>
        obtain ⟨rfl, rfl⟩ := hcut
        go_upto_if 26 with fail
        go_cut [7] (fun a wx => a = .int .i64 M ∧ w = wx)
        case first =>
          rcases hp.out with ⟨c, rfl, rfl⟩ | ⟨c, rfl, rfl⟩
          · go_wp2_with fail
            go_meet
            case rel => exact ⟨rfl, rfl⟩
          · go_wp2_with fail
            go_meet
            case rel => exact ⟨rfl, rfl⟩
        case rest =>
          obtain ⟨rfl, rfl⟩ := hcut
          go_upto_region 12 with fail
          go_cut [8] (fun a wx => a = .int .i64 G ∧ w = wx)
          case first =>
            go_wp2_with fail
            go_meet
            case rel => exact ⟨val64 hG.out, rfl⟩
          case rest =>
            obtain ⟨rfl, rfl⟩ := hcut
            go_wp2
            go_ret
            exact ⟨by rw [← hN.out]; rfl, rfl⟩

theorem daysFrom_any (y m Yv M : Int) (w : World) (y1 : -4713 ≤ y) (y2 : y ≤ 9999) (m1 : 1 ≤ m) (m2 : m ≤ 12) (hp : (m ≤ 2 ∧ Yv = y - 1 ∧ M = m + 9) ∨ (2 < m ∧ Yv = y ∧ M = m - 3)) :
    Calls Try.prog 33 #[.int .i64 y, .int .i64 m] w fun e w' => e = .returned (.int .i64 (Cal.S Yv + (153 * M + 2) / 5 - 719468)) ∧ w = w' := by
  refine daysFrom_walk y m Yv (Yv / 400) (Yv - Yv / 400 * 400) M ((153 * M + 2) / 5) _ w y1 y2 m1 m2 hp (by omega) (by omega) rfl (by omega) (by omega) rfl (by omega) (by omega) (by omega) (by omega) rfl (by omega) (by omega) ?_
  have := Cal.era_days Yv
  show _ = _
  omega

end Go.Proofs.Qxb6604200a
