/-
  The proof of Rows.FnJulianEraCalendarModelSaid. The frame is the guide's, turned to a struct of 18 fields; the walk and what it leans on are ours.
-/
import Derived.Test.Qxb6604200aRows
import Derived.WalkKit
import Derived.ProofKit
import Derived.OpenShut
import Derived.Test.Qxb6604200aMomentFrame
import Derived.Test.Qxb6604200aSameMoment
import Derived.Test.Qxb6604200aJulianModel
import Derived.Test.Qxb6604200aJulianModelPlain
import Derived.Test.Qxb6604200aJulianModelClock
import Derived.Test.Qxb6604200aJulianAll
import Derived.Test.Qxb6604200aJulianEra
import Derived.Test.Qxb6604200aInDomain
import Derived.Test.Qxb6604200aFloatBound
import Derived.ShutString
namespace Go.Proofs.Qxb6604200a.fnJulianEraCalendarModel
open Go.ChangeShapes Go.WideShapes Go.ChangeAt Go.RowKit
set_option linter.unusedVariables false

theorem own : ownKnob Try.prog.godebug = none := by kernel_rfl

theorem same_row (jd : Int) (hasJD : Bool) (year month day : Int) (hasDate : Bool) (hour minute : Int) (second : Nat) (hasClock : Bool) (number : Nat) (isNumber : Bool) (zone : Int) (utc loc subsec : Bool) (overflow : Int) (failed : Bool) (w : World) :
    Calls Try.prog 21 #[.agg (row jd hasJD year month day hasDate hour minute second hasClock number isNumber zone utc loc subsec overflow failed), .agg (row jd hasJD year month day hasDate hour minute second hasClock number isNumber zone utc loc subsec overflow failed)] w fun e w' => e = .returned (.bool true) ∧ Ext w w' := by
  refine (sameMoment_any (row jd hasJD year month day hasDate hour minute second hasClock number isNumber zone utc loc subsec overflow failed) jd year month day hour minute zone overflow second number hasJD hasDate hasClock isNumber utc loc subsec failed w rfl rfl rfl rfl rfl rfl rfl rfl rfl rfl rfl rfl rfl rfl rfl rfl rfl rfl).mono ?_
  rintro e w' ⟨rfl, rfl⟩
  exact ⟨rfl, (ext_alloc w _ 30).trans (ext_alloc _ _ 30)⟩

theorem start_ex (hasDate : Bool) (year month day : Int) : ∃ Ys Ms Ds : Int, (hasDate = true ∧ Ys = year ∧ Ms = month ∧ Ds = day) ∨ (hasDate = false ∧ Ys = 2000 ∧ Ms = 1 ∧ Ds = 1) := by
  cases hasDate
  · exact ⟨2000, 1, 1, Or.inr ⟨rfl, rfl, rfl, rfl⟩⟩
  · exact ⟨year, month, day, Or.inl ⟨rfl, rfl, rfl, rfl⟩⟩

theorem or_of {o : Option Ordering} {x y : Ordering} (h : (o == some x || o == some y) = true) : o = some x ∨ o = some y := by
  rw [Bool.or_eq_true] at h
  rcases h with h | h
  · exact Or.inl (eq_of_beq h)
  · exact Or.inr (eq_of_beq h)

/-- the date is within the domain: julian's arithmetic is reached -/
theorem walk_main (jd : Int) (year month day : Int) (hasDate : Bool) (hour minute : Int) (second : Nat) (hasClock : Bool) (number : Nat) (zone : Int) (utc loc subsec : Bool) (overflow : Int) (failed : Bool) (w : World)
    (hD : hasDate = false ∨ (hasDate = true ∧ -4713 ≤ year ∧ year ≤ 9999 ∧ 1 ≤ month ∧ month ≤ 12 ∧ -16777216 ≤ day ∧ day ≤ 16777216)) :
    Calls Try.prog 6 #[.agg (row jd false year month day hasDate hour minute second hasClock number false zone utc loc subsec overflow failed)] w fun e w' => e = .returned (.bool true) ∧ Ext w w' := by
  obtain ⟨Ys, Ms, Ds, hst⟩ := start_ex hasDate year month day
  obtain ⟨Yp, Mp, n, hc⟩ : ∃ Yp Mp n, Counted Ys Ms Ds Yp Mp n := by
    refine counted_ex ?_ ?_ ?_ ?_ ?_ ?_ <;> rcases hst with ⟨h, rfl, rfl, rfl⟩ | ⟨h, rfl, rfl, rfl⟩ <;> rcases hD with h' | ⟨h', _⟩ <;> first | omega | (rw [h] at h'; cases h')
  obtain ⟨hv, v1, v2, s1, s2, p3, p14⟩ := hc.val
  have hn := hc.hn
  obtain ⟨B, hB⟩ : ∃ B, B = 86400000 * (n + 1721120) - 43200000 := ⟨_, rfl⟩
  have c33 : ∀ w, Calls Try.prog 33 #[.int .i64 Ys, .int .i64 Ms] w fun e w' => e = .returned (.int .i64 (Cal.S Yp + (153 * (Mp - 3) + 2) / 5 - 719468)) ∧ w = w' := fun w =>
    daysFrom_any Ys Ms Yp (Mp - 3) w hc.y1 hc.y2 hc.m1 hc.m2 (by have := hc.hp; omega)
  obtain ⟨A, hA⟩ : ∃ A, (FloatKind.f64.format.order second 14010698440749613056 == some .gt || FloatKind.f64.format.order second 14010698440749613056 == some .eq) = A := ⟨_, rfl⟩
  obtain ⟨Bo, hBo⟩ : ∃ Bo, (FloatKind.f64.format.order second 4787326403894837248 == some .lt || FloatKind.f64.format.order second 4787326403894837248 == some .eq) = Bo := ⟨_, rfl⟩
  have c19 : ∀ w, Calls Try.prog 19 #[.agg (row jd false year month day hasDate hour minute second hasClock number false zone utc loc subsec overflow failed)] w fun e w' => e = .returned (.bool (!hasClock || (A && Bo))) ∧ Ext w w' := fun w =>
    inDomain_clock year month day hasDate hasClock second A Bo _ w hA hBo hD rfl rfl rfl rfl rfl rfl rfl rfl
  cases hasClock with
  | false =>
    exact julianEra_core (row jd false year month day hasDate hour minute second false number false zone utc loc subsec overflow failed) (row B true year month day hasDate hour minute second false number false zone utc loc subsec overflow failed) w c19 (fun w => zzJulian_plain jd year month day hour minute zone overflow second number hasDate utc loc subsec failed w Ys Ms Ds Yp Mp n B hst hc hB)
      (fun w => julianModel_plain jd year month day hour minute zone overflow second number hasDate utc loc subsec failed _ w Ys Ms Ds (Cal.S Yp + (153 * (Mp - 3) + 2) / 5 - 719468) (n - 719468) B hst hc.y1 hc.y2 hc.d1 hc.d2 (by omega) (by omega) (show _ = _ by omega) (by omega) (by omega) (show _ = _ by omega) c33 rfl (size30 jd false year month day hasDate hour minute second false number false zone utc loc subsec overflow failed) rfl (one_row jd false year month day hasDate hour minute second false number false zone utc loc subsec overflow failed) rfl rfl rfl rfl rfl rfl rfl
        (row B true year month day hasDate hour minute second false number false zone utc loc subsec overflow failed) rfl (size30 B true year month day hasDate hour minute second false number false zone utc loc subsec overflow failed) rfl (one_row B true year month day hasDate hour minute second false number false zone utc loc subsec overflow failed))
      (fun w => same_row B true year month day hasDate hour minute second false number false zone utc loc subsec overflow failed w) (size30 jd false year month day hasDate hour minute second false number false zone utc loc subsec overflow failed) (size30 B true year month day hasDate hour minute second false number false zone utc loc subsec overflow failed) rfl (one_row B true year month day hasDate hour minute second false number false zone utc loc subsec overflow failed)
  | true =>
    cases hab : (A && Bo) with
    | false =>
      rw [hab] at c19
      exact julianEra_skip _ w c19 (size30 jd false year month day hasDate hour minute second true number false zone utc loc subsec overflow failed)
    | true =>
      rw [hab] at c19
      obtain ⟨rfl, rfl⟩ : A = true ∧ Bo = true := by simpa using hab
      obtain ⟨r3, r4, V, fv1, fv2, fv3⟩ := Flt.clock_val second (or_of hA) (or_of hBo)
      obtain ⟨J, hJ⟩ : ∃ J, J = wrap64 (B + wrap64 (wrap64 (wrap64 (hour * 3600000) + wrap64 (minute * 60000)) + V)) := ⟨_, rfl⟩
      cases hz : (zone != 0) with
      | false =>
        exact julianEra_core (row jd false year month day hasDate hour minute second true number false zone utc loc subsec overflow failed) (row J true year month day hasDate hour minute second true number false zone utc loc subsec overflow failed) w c19 (fun w => zzJulian_clock0 jd year month day hour minute zone overflow second number hasDate utc loc subsec failed w Ys Ms Ds Yp Mp n B hst hc hB r3 r4 V J hJ fv1 fv2 fv3 hz)
          (fun w => julianModel_clock0 jd year month day hour minute zone overflow second number hasDate utc loc subsec failed _ w Ys Ms Ds (Cal.S Yp + (153 * (Mp - 3) + 2) / 5 - 719468) (n - 719468) B hst hc.y1 hc.y2 hc.d1 hc.d2 (by omega) (by omega) (show _ = _ by omega) (by omega) (by omega) (show _ = _ by omega) c33 r3 r4 V J hJ fv1 fv2 fv3 hz rfl (size30 jd false year month day hasDate hour minute second true number false zone utc loc subsec overflow failed) rfl (one_row jd false year month day hasDate hour minute second true number false zone utc loc subsec overflow failed) rfl rfl rfl rfl rfl rfl rfl rfl rfl rfl rfl
            (row J true year month day hasDate hour minute second true number false zone utc loc subsec overflow failed) rfl (size30 J true year month day hasDate hour minute second true number false zone utc loc subsec overflow failed) rfl (one_row J true year month day hasDate hour minute second true number false zone utc loc subsec overflow failed))
          (fun w => same_row J true year month day hasDate hour minute second true number false zone utc loc subsec overflow failed w) (size30 jd false year month day hasDate hour minute second true number false zone utc loc subsec overflow failed) (size30 J true year month day hasDate hour minute second true number false zone utc loc subsec overflow failed) rfl (one_row J true year month day hasDate hour minute second true number false zone utc loc subsec overflow failed)
      | true =>
        obtain ⟨J2, hJ2⟩ : ∃ J2, J2 = wrap64 (J - wrap64 (zone * 60000)) := ⟨_, rfl⟩
        exact julianEra_core (row jd false year month day hasDate hour minute second true number false zone utc loc subsec overflow failed) (row J2 true year month day false hour minute second false number false 0 true false subsec overflow failed) w c19 (fun w => zzJulian_clock1 jd year month day hour minute zone overflow second number hasDate utc loc subsec failed w Ys Ms Ds Yp Mp n B hst hc hB r3 r4 V J J2 hJ fv1 fv2 fv3 hJ2 hz)
          (fun w => julianModel_clock1 jd year month day hour minute zone overflow second number hasDate utc loc subsec failed _ w Ys Ms Ds (Cal.S Yp + (153 * (Mp - 3) + 2) / 5 - 719468) (n - 719468) B hst hc.y1 hc.y2 hc.d1 hc.d2 (by omega) (by omega) (show _ = _ by omega) (by omega) (by omega) (show _ = _ by omega) c33 r3 r4 V J hJ fv1 fv2 fv3 J2 hJ2 hz rfl (size30 jd false year month day hasDate hour minute second true number false zone utc loc subsec overflow failed) rfl (one_row jd false year month day hasDate hour minute second true number false zone utc loc subsec overflow failed) rfl rfl rfl rfl rfl rfl rfl rfl rfl rfl rfl
            (row J2 true year month day false hour minute second false number false 0 true false subsec overflow failed) rfl (size30 J2 true year month day false hour minute second false number false 0 true false subsec overflow failed) rfl (one_row J2 true year month day false hour minute second false number false 0 true false subsec overflow failed))
          (fun w => same_row J2 true year month day false hour minute second false number false 0 true false subsec overflow failed w) (size30 jd false year month day hasDate hour minute second true number false zone utc loc subsec overflow failed) (size30 J2 true year month day false hour minute second false number false 0 true false subsec overflow failed) rfl (one_row J2 true year month day false hour minute second false number false 0 true false subsec overflow failed)

/-! ### STEP 1: THE WALK -/
theorem walk_ext (jd : Int) (hasJD : Bool) (year month day : Int) (hasDate : Bool) (hour minute : Int) (second : Nat) (hasClock : Bool) (number : Nat) (isNumber : Bool) (zone : Int) (utc loc subsec : Bool) (overflow : Int) (failed : Bool) (w : World) :
    Calls Try.prog 6 #[.agg (row jd hasJD year month day hasDate hour minute second hasClock number isNumber zone utc loc subsec overflow failed)] w fun e w' => e = .returned (.bool true) ∧ Ext w w' := by
  cases hasJD with
  | true =>
    exact julianEra_core (row jd true year month day hasDate hour minute second hasClock number isNumber zone utc loc subsec overflow failed) (row jd true year month day hasDate hour minute second hasClock number isNumber zone utc loc subsec overflow failed) w (fun w => inDomain_has _ w rfl) (fun w => zzJulian_hasJD jd year month day hour minute zone overflow second number hasDate hasClock isNumber utc loc subsec failed w)
      (fun w => julianModel_has _ w (size30 jd true year month day hasDate hour minute second hasClock number isNumber zone utc loc subsec overflow failed) rfl (one_row jd true year month day hasDate hour minute second hasClock number isNumber zone utc loc subsec overflow failed) rfl) (fun w => same_row jd true year month day hasDate hour minute second hasClock number isNumber zone utc loc subsec overflow failed w) (size30 jd true year month day hasDate hour minute second hasClock number isNumber zone utc loc subsec overflow failed) (size30 jd true year month day hasDate hour minute second hasClock number isNumber zone utc loc subsec overflow failed) rfl (one_row jd true year month day hasDate hour minute second hasClock number isNumber zone utc loc subsec overflow failed)
  | false =>
    obtain ⟨Ys, Ms, Ds, hst⟩ := start_ex hasDate year month day
    cases isNumber with
    | true =>
      exact julianEra_core (row jd false year month day hasDate hour minute second hasClock number true zone utc loc subsec overflow failed) (row 0 false 0 0 0 false 0 0 0 false 0 false 0 false false false 0 true) w (fun w => inDomain_number _ w rfl rfl) (fun w => zzJulian_fails jd year month day hour minute zone overflow second number hasDate hasClock true utc loc subsec failed w Ys Ms Ds hst (Or.inr (Or.inr rfl)))
        (fun w => julianModel_bad year month day Ys Ms Ds hasDate true _ w hst (Or.inr (Or.inr rfl)) rfl rfl rfl rfl rfl rfl) (fun w => same_row 0 false 0 0 0 false 0 0 0 false 0 false 0 false false false 0 true w) (size30 jd false year month day hasDate hour minute second hasClock number true zone utc loc subsec overflow failed) (size30 0 false 0 0 0 false 0 0 0 false 0 false 0 false false false 0 true) rfl (one_row 0 false 0 0 0 false 0 0 0 false 0 false 0 false false false 0 true)
    | false =>
      cases hasDate with
      | false => exact walk_main jd year month day false hour minute second hasClock number zone utc loc subsec overflow failed w (Or.inl rfl)
      | true =>
        by_cases hy : year < -4713 ∨ 9999 < year
        · obtain rfl : Ys = year := by
            rcases hst with ⟨_, h, _⟩ | ⟨h, _⟩
            · exact h
            · cases h
          exact julianEra_core (row jd false Ys month day true hour minute second hasClock number false zone utc loc subsec overflow failed) (row 0 false 0 0 0 false 0 0 0 false 0 false 0 false false false 0 true) w (fun w => inDomain_year Ys _ w hy rfl rfl rfl rfl) (fun w => zzJulian_fails jd Ys month day hour minute zone overflow second number true hasClock false utc loc subsec failed w Ys Ms Ds hst (by omega))
            (fun w => julianModel_bad Ys month day Ys Ms Ds true false _ w hst (by omega) rfl rfl rfl rfl rfl rfl) (fun w => same_row 0 false 0 0 0 false 0 0 0 false 0 false 0 false false false 0 true w) (size30 jd false Ys month day true hour minute second hasClock number false zone utc loc subsec overflow failed) (size30 0 false 0 0 0 false 0 0 0 false 0 false 0 false false false 0 true) rfl (one_row 0 false 0 0 0 false 0 0 0 false 0 false 0 false false false 0 true)
        · by_cases hd : month < 1 ∨ 12 < month ∨ day < -16777216 ∨ 16777216 < day
          · exact julianEra_skip _ w (fun w => inDomain_date year month day _ w (by omega) (by omega) hd rfl rfl rfl rfl rfl rfl) (size30 jd false year month day true hour minute second hasClock number false zone utc loc subsec overflow failed)
          · exact walk_main jd year month day true hour minute second hasClock number zone utc loc subsec overflow failed w (Or.inr ⟨rfl, by omega, by omega, by omega, by omega, by omega, by omega⟩)

theorem walk (jd : Int) (hasJD : Bool) (year month day : Int) (hasDate : Bool) (hour minute : Int) (second : Nat) (hasClock : Bool) (number : Nat) (isNumber : Bool) (zone : Int) (utc loc subsec : Bool) (overflow : Int) (failed : Bool) (w : World) :
    Calls Try.prog 6 #[.agg (row jd hasJD year month day hasDate hour minute second hasClock number isNumber zone utc loc subsec overflow failed)] w fun e w' => e = .returned (.bool true) ∧ Grown w w' := by
  refine (walk_ext jd hasJD year month day hasDate hour minute second hasClock number isNumber zone utc loc subsec overflow failed w).mono ?_
  rintro e w' ⟨rfl, hx⟩
  exact ⟨rfl, hx.grown⟩

/-! ### THE ROW's STEP -/
set_option maxRecDepth 100000 in
theorem lifted (os : Os) (started : os.Started) (H : Type) (enc : TypeId × Value → H) :
    ReturnsInHanded {} Try.checked os 6 .any (Rows.fnJulianEraCalendarModelSpec.pre6 enc Try.prog Try.f6 Rows.fnJulianEraCalendarModelRow.domain false) (Rows.fnJulianEraCalendarModelSpec.post enc Try.prog Try.f6 false true false false) := by
  refine returnsInHanded_of_change (C := Try.checked) own started (by kernel_rfl) Try.func6
    (ChangeSpec.witness6 (enc := enc) (C := Try.checked) false ⟨#[], #[.agg #[.int .i64 0, .bool false, .int .i64 0, .int .i64 0, .int .i64 0, .bool false, .int .i64 0, .int .i64 0, .float .f64 0, .bool false, .float .f64 0, .bool false, .int .i64 0, .bool false, .bool false, .bool false, .int .i64 0, .bool false]], []⟩ 8 (by kernel_rfl) (by kernel_rfl) (by kernel_rfl) (by kernel_rfl)) ?_
  intro W base args ds gs before hval0 hW hcnd _
  have hval : ∀ (j : Nat) t v, Try.f6.params[j]? = some t → args[j]? = some v → Value.okWide Try.prog W .any base t v := hval0
  have hW' := hW
  obtain ⟨p, q, hA0, hV, rfl, hfz, hnd⟩ := hW
  have hA : DataW.TrodAll enc Try.prog W 0 (fun _ => true) true Try.f6.params.toList args.toList ds p := hA0
  rw [Try.params6] at hA hval
  obtain ⟨v0, vs0, d0, ds0, p0, q0, hargs, rfl, rfl, h0, r0⟩ := trodAll_cons hA
  obtain ⟨rfl, rfl, rfl⟩ := trodAll_nil r0
  obtain rfl : args = #[v0] := by cases args; simp_all
  obtain ⟨rfl, rfl⟩ := trodVars_none hV
  obtain ⟨jd, hasJD, year, month, day, hasDate, hour, minute, second, hasClock, number, isNumber, zone, utc, loc, subsec, overflow, failed, hrow, rfl, wf0, wf1, wf2, wf3, wf4, wf5, wf6, wf7, wf8, wf9⟩ := moment_open (hval 0 30 v0 rfl rfl) h0
  clear hA0 hval0
  simp only [List.append_nil] at hW'
  have hw0 := walk jd hasJD year month day hasDate hour minute second hasClock number isNumber zone utc loc subsec overflow failed W
  rw [← hrow] at hw0
  refine hw0.mono fun e W' ⟨he, hg⟩ => ?_
  subst he
  exact ⟨_, rfl, post_of_same (pa := []) (pv := []) hW' (fun _ _ _ => (trodAll_cons_mk (shut_bool Try.underlying4 _) trodAll_mk0)) (fun sp _ => (trodAll_cons_mk (moment_shut h0) trodAll_mk0)) (fun _ _ => rfl) rfl
    (hg.frame _) hg.2.1 (ok_one (by kernel_rfl) rfl (okWide_bool_mk Try.underlying4 _))⟩

theorem over : Rows.fnJulianEraCalendarModelRow.holds Try.pinned (OpenSpec.ofChange Rows.fnJulianEraCalendarModelSpec) :=
  OpenClaim.holds_of_wide 6 Try.f6 rfl rfl rfl rfl rfl rfl rfl ⟨rfl, rfl, rfl, rfl, rfl⟩ rfl rfl rfl rfl rfl (by kernel_rfl) Try.func6 (by kernel_rfl)
    (of_decide_eq_true (by kernel_rfl)) (by unfold Func.isWrapper; first | (rw [if_pos (by decide +kernel)]; kernel_rfl) | (rw [if_neg (by decide +kernel)]; exact ⟨rfl, rfl⟩))
    (fun os started H enc _ => lifted os started H enc)

/-- THE STATEMENT -/
theorem proved : Rows.FnJulianEraCalendarModelSaid :=
  over
#print axioms proved
end Go.Proofs.Qxb6604200a.fnJulianEraCalendarModel
