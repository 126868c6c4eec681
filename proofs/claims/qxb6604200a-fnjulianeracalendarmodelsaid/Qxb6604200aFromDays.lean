/-
  zzCivilFromDays: the era algorithm's date.
-/
import Derived.Test.Qxb6604200aSmallFns
import Derived.Deep.DeepCutAuto
import Derived.Deep.CutBlock
import Derived.OwnWalk
namespace Go.Proofs.Qxb6604200a
open Go.RowKit

theorem val64 {a b : Int} (h : a = b) : Value.int .i64 a = Value.int .i64 b := by rw [h]

theorem era_floor {n E : Int} (h : n / 146097 = E) (hn : n < 0) : (n - 146096).tdiv 146097 = E := by
  have e : n - 146096 = -(146096 - n) := by omega
  rw [e, Int.neg_tdiv, Int.tdiv_eq_ediv_of_nonneg (by omega)]
  omega

set_option maxHeartbeats 1000000 in
set_option maxRecDepth 10000 in
theorem fromDays_walk (n E s u r M D Y0 y m : Int) (w : World) (n1 : -1800000 ≤ n) (n2 : n ≤ 4000000) (hE : Hid (n / 146097 = E)) (E1 : -20 ≤ E) (E2 : E ≤ 40)
    (hs : Hid (n - 146097 * E = s)) (s0 : 0 ≤ s) (s1 : s < 146097) (hu : Hid ((s - s / 1460 + s / 36524 - s / 146096) / 365 = u)) (u0 : 0 ≤ u) (u1 : u ≤ 399)
    (hY0 : Hid (u + E * 400 = Y0)) (b1 : -8000 ≤ Y0) (b2 : Y0 ≤ 16400) (hr : Hid (s - (365 * u + u / 4 - u / 100) = r)) (r0 : 0 ≤ r) (r1 : r ≤ 365) (hM : Hid ((5 * r + 2) / 153 = M)) (M0 : 0 ≤ M) (M1 : M ≤ 11)
    (hD : Hid (r - (153 * M + 2) / 5 + 1 = D)) (hc : Hid ((M < 10 ∧ m = M + 3 ∧ y = Y0) ∨ (10 ≤ M ∧ m = M - 9 ∧ y = Y0 + 1))) :
    Calls Try.prog 36 #[.int .i64 (n - 719468)] w fun e w' => e = .returned (.tuple #[.int .i64 y, .int .i64 m, .int .i64 D]) ∧ w = w' := by
  go_enter Try.func36, Try.ntmps36
  go_upto_region 1 with fail
  go_cut [0] (fun a wx => a = .int .i64 n ∧ w = wx)
  case first =>
    go_wp2_with fail
    go_meet
    case rel => exact ⟨val64 (by omega), rfl⟩
  case rest =>
    obtain ⟨rfl, rfl⟩ := hcut
    go_upto_if 16 with fail
    go_cut [5] (fun a wx => a = .int .i64 E ∧ w = wx)
    case first =>
      by_cases hn : 0 ≤ n
      · go_wp2_with fail
        go_meet
        case rel => exact ⟨val64 hE.out, rfl⟩
      · have hn' : n < 0 := by omega
        go_wp2_with fail
        go_meet
        case rel => exact ⟨val64 (era_floor hE.out hn'), rfl⟩
    case rest =>
      obtain ⟨rfl, rfl⟩ := hcut
      go_upto_region 6 with fail
      go_cut [6] (fun a wx => a = .int .i64 s ∧ w = wx)
      case first =>
        go_wp2_with fail
        go_meet
        case rel => exact ⟨val64 (by have := hs.out; omega), rfl⟩
      case rest =>
        obtain ⟨rfl, rfl⟩ := hcut
        go_upto_region 7 with fail
        go_cut [7] (fun a wx => a = .int .i64 u ∧ w = wx)
        case first =>
          go_wp2_with fail
          go_meet
          case rel => exact ⟨val64 hu.out, rfl⟩
        case rest =>
          obtain ⟨rfl, rfl⟩ := hcut
          go_upto_region 8 with fail
          go_cut [8] (fun a wx => a = .int .i64 Y0 ∧ w = wx)
          case first =>
            go_wp2_with fail
            go_meet
            case rel => exact ⟨val64 hY0.out, rfl⟩
          case rest =>
            obtain ⟨rfl, rfl⟩ := hcut
            go_upto_region 9 with fail
            go_cut [9] (fun a wx => a = .int .i64 r ∧ w = wx)
            case first =>
              go_wp2_with fail
              go_meet
              case rel => exact ⟨val64 hr.out, rfl⟩
            case rest =>
              obtain ⟨rfl, rfl⟩ := hcut
              go_upto_region 10 with fail
              go_cut [10] (fun a wx => a = .int .i64 M ∧ w = wx)
              case first =>
                go_wp2_with fail
                go_meet
                case rel => exact ⟨val64 hM.out, rfl⟩
              case rest =>
                obtain ⟨rfl, rfl⟩ := hcut
                go_upto_region 11 with fail
                go_cut [11] (fun a wx => a = .int .i64 D ∧ w = wx)
                case first =>
                  go_wp2_with fail
                  go_meet
                  case rel => exact ⟨val64 hD.out, rfl⟩
                case rest =>
                  obtain ⟨rfl, rfl⟩ := hcut
                  rcases hc.out with ⟨c, rfl, rfl⟩ | ⟨c, rfl, rfl⟩
                  · go_wp2
                    go_ret3
                    exact ⟨rfl, rfl⟩
                  · go_wp2
                    go_ret3
                    exact ⟨rfl, rfl⟩

/-- the era algorithm's date -/
def EraDate (E q t v r y m d : Int) : Prop :=
  (Cal.mp r < 10 ∧ y = Cal.Y E q t v ∧ m = Cal.mp r + 3 ∧ d = Cal.dom r) ∨ (10 ≤ Cal.mp r ∧ y = Cal.Y E q t v + 1 ∧ m = Cal.mp r - 9 ∧ d = Cal.dom r)

theorem era_ex (E q t v r : Int) : ∃ y m d, EraDate E q t v r y m d := by
  by_cases h : Cal.mp r < 10
  · exact ⟨_, _, _, Or.inl ⟨h, rfl, rfl, rfl⟩⟩
  · exact ⟨_, _, _, Or.inr ⟨by omega, rfl, rfl, rfl⟩⟩

theorem fromDays_any {n E q t v r y m d : Int} (n1 : -1800000 ≤ n) (n2 : n ≤ 4000000) (hd : Cal.Dec n E q t v r) (he : EraDate E q t v r y m d) (w : World) :
    Calls Try.prog 36 #[.int .i64 (n - 719468)] w fun e w' => e = .returned (.tuple #[.int .i64 y, .int .i64 m, .int .i64 d]) ∧ w = w' := by
  obtain ⟨hE, hu, hr, s0, s1⟩ := Cal.era_vals hd
  have q0 := hd.q0; have q3 := hd.q3; have t0 := hd.t0; have t24 := hd.t24; have v0 := hd.v0; have v3 := hd.v3
  obtain ⟨m0, m11, _⟩ := Cal.mp_bounds hd.r0 hd.r365
  have hY : Cal.Y E q t v = 400 * E + 100 * q + 4 * t + v := rfl
  have hD : r - (153 * Cal.mp r + 2) / 5 + 1 = d := by
    rcases he with ⟨_, _, _, h⟩ | ⟨_, _, _, h⟩ <;> rw [h] <;> rfl
  refine fromDays_walk n E (n - 146097 * E) (100 * q + 4 * t + v) r (Cal.mp r) d (Cal.Y E q t v) y m w n1 n2 hE (by omega) (by omega) rfl s0 s1 hu (by omega) (by omega) (show _ = _ by omega) (by omega) (by omega) hr hd.r0 hd.r365 rfl m0 m11 hD ?_
  rcases he with ⟨h10, hy, hm, _⟩ | ⟨h10, hy, hm, _⟩
  · exact Or.inl ⟨h10, hm, hy⟩
  · exact Or.inr ⟨h10, hm, hy⟩

/-- civil's date, out of the era algorithm's -/
theorem date_of_era {n E q t v r y m d : Int} (hd : Cal.Dec n E q t v r) (he : EraDate E q t v r y m d) :
    (Cal.March y m d ∧ Cal.IsDate E q t v r y 2 29) ∨ (¬ Cal.March y m d ∧ Cal.IsDate E q t v r y m d) := by
  have q0 := hd.q0; have q3 := hd.q3; have t0 := hd.t0; have t24 := hd.t24; have v0 := hd.v0; have v3 := hd.v3; have r0 := hd.r0
  have hY : Cal.Y E q t v = 400 * E + 100 * q + 4 * t + v := rfl
  rcases Cal.odd_or E q t v r with ho | ho
  · left
    obtain ⟨hE, rfl, rfl, rfl, rfl⟩ := ho
    have m0 : Cal.mp 0 = 0 := by decide
    have d0 : Cal.dom 0 = 1 := by decide
    unfold EraDate at he
    rw [m0, d0] at he
    rcases he with ⟨_, hy, hm, hdd⟩ | ⟨h, _⟩
    · refine ⟨⟨by omega, hdd, by omega, by omega⟩, Or.inl ⟨⟨hE, rfl, rfl, rfl, rfl⟩, hy, rfl, rfl⟩⟩
    · omega
  · right
    refine ⟨?_, ?_⟩
    · rintro ⟨h3, h1, h300, hm4⟩
      rcases he with ⟨h10, hy, hm, hdd⟩ | ⟨h10, hy, hm, hdd⟩
      · have hm0 : Cal.mp r = 0 := by omega
        have hr0 : r = 0 := by
          rw [hdd] at h1
          unfold Cal.dom at h1
          rw [hm0] at h1
          omega
        exact ho ⟨by omega, by omega, by omega, by omega, hr0⟩
      · have := (Cal.mp_bounds hd.r0 hd.r365).2.1
        omega
    · rcases he with ⟨h10, hy, hm, hdd⟩ | ⟨h10, hy, hm, hdd⟩
      · exact Or.inr (Or.inl ⟨ho, h10, hy, hm, hdd⟩)
      · exact Or.inr (Or.inr ⟨ho, h10, hy, hm, hdd⟩)

end Go.Proofs.Qxb6604200a
