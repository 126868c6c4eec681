/-
  The proof of Rows.FnCivilEraCalendarModelSaid. The frame is the guide's, turned to a struct of 18 fields; the walk and what it leans on are ours.
-/
import Derived.Test.Qxb6604200aRows
import Derived.WalkKit
import Derived.ProofKit
import Derived.OpenShut
import Derived.Test.Qxb6604200aMomentFrame
import Derived.Test.Qxb6604200aSameMoment
import Derived.Test.Qxb6604200aCivilModel
import Derived.Test.Qxb6604200aCivilModelMain
import Derived.Test.Qxb6604200aCivilEra
import Derived.ShutString
namespace Go.Proofs.Qxb6604200a.fnCivilEraCalendarModel
open Go.ChangeShapes Go.WideShapes Go.ChangeAt Go.RowKit
set_option linter.unusedVariables false

theorem own : ownKnob Try.prog.godebug = none := by kernel_rfl

theorem same_row (jd : Int) (hasJD : Bool) (year month day : Int) (hasDate : Bool) (hour minute : Int) (second : Nat) (hasClock : Bool) (number : Nat) (isNumber : Bool) (zone : Int) (utc loc subsec : Bool) (overflow : Int) (failed : Bool) (w : World) :
    Calls Try.prog 21 #[.agg (row jd hasJD year month day hasDate hour minute second hasClock number isNumber zone utc loc subsec overflow failed), .agg (row jd hasJD year month day hasDate hour minute second hasClock number isNumber zone utc loc subsec overflow failed)] w fun e w' => e = .returned (.bool true) ∧ Ext w w' := by
  refine (sameMoment_any (row jd hasJD year month day hasDate hour minute second hasClock number isNumber zone utc loc subsec overflow failed) jd year month day hour minute zone overflow second number hasJD hasDate hasClock isNumber utc loc subsec failed w rfl rfl rfl rfl rfl rfl rfl rfl rfl rfl rfl rfl rfl rfl rfl rfl rfl rfl).mono ?_
  rintro e w' ⟨rfl, rfl⟩
  exact ⟨rfl, (ext_alloc w _ 30).trans (ext_alloc _ _ 30)⟩

/-! ### STEP 1: THE WALK -/
theorem walk_ext (jd : Int) (hasJD : Bool) (year month day : Int) (hasDate : Bool) (hour minute : Int) (second : Nat) (hasClock : Bool) (number : Nat) (isNumber : Bool) (zone : Int) (utc loc subsec : Bool) (overflow : Int) (failed : Bool) (w : World) :
    Calls Try.prog 8 #[.agg (row jd hasJD year month day hasDate hour minute second hasClock number isNumber zone utc loc subsec overflow failed)] w fun e w' => e = .returned (.bool true) ∧ Ext w w' := by
  cases hasDate with
  | true =>
    exact civilEra_core (row jd hasJD year month day true hour minute second hasClock number isNumber zone utc loc subsec overflow failed) (row jd hasJD year month day true hour minute second hasClock number isNumber zone utc loc subsec overflow failed) w (fun w => zzCivil_has jd year month day hour minute zone overflow second number hasJD hasClock isNumber utc loc subsec failed w)
      (fun w => civilModel_has _ w (size30 jd hasJD year month day true hour minute second hasClock number isNumber zone utc loc subsec overflow failed) rfl (one_row jd hasJD year month day true hour minute second hasClock number isNumber zone utc loc subsec overflow failed) rfl) (fun w => same_row jd hasJD year month day true hour minute second hasClock number isNumber zone utc loc subsec overflow failed w) (size30 jd hasJD year month day true hour minute second hasClock number isNumber zone utc loc subsec overflow failed) (size30 jd hasJD year month day true hour minute second hasClock number isNumber zone utc loc subsec overflow failed) rfl (one_row jd hasJD year month day true hour minute second hasClock number isNumber zone utc loc subsec overflow failed)
  | false =>
    cases hasJD with
    | false =>
      exact civilEra_core (row jd false year month day false hour minute second hasClock number isNumber zone utc loc subsec overflow failed) (row jd false 2000 1 1 true hour minute second hasClock number isNumber zone utc loc subsec overflow failed) w (fun w => zzCivil_none jd year month day hour minute zone overflow second number hasClock isNumber utc loc subsec failed w)
        (fun w => civilModel_none jd year month day hour minute zone overflow second number hasClock isNumber utc loc subsec failed _ w rfl (size30 jd false year month day false hour minute second hasClock number isNumber zone utc loc subsec overflow failed) rfl (one_row jd false year month day false hour minute second hasClock number isNumber zone utc loc subsec overflow failed) rfl rfl (row jd false 2000 1 1 true hour minute second hasClock number isNumber zone utc loc subsec overflow failed) rfl (size30 jd false 2000 1 1 true hour minute second hasClock number isNumber zone utc loc subsec overflow failed) rfl (one_row jd false 2000 1 1 true hour minute second hasClock number isNumber zone utc loc subsec overflow failed)) (fun w => same_row jd false 2000 1 1 true hour minute second hasClock number isNumber zone utc loc subsec overflow failed w) (size30 jd false year month day false hour minute second hasClock number isNumber zone utc loc subsec overflow failed) (size30 jd false 2000 1 1 true hour minute second hasClock number isNumber zone utc loc subsec overflow failed) rfl (one_row jd false 2000 1 1 true hour minute second hasClock number isNumber zone utc loc subsec overflow failed)
    | true =>
      by_cases h : jd < 0 ∨ 464269060799999 < jd
      · exact civilEra_core (row jd true year month day false hour minute second hasClock number isNumber zone utc loc subsec overflow failed) (row 0 false 0 0 0 false 0 0 0 false 0 false 0 false false false 0 true) w (fun w => zzCivil_bad jd year month day hour minute zone overflow second number hasClock isNumber utc loc subsec failed w h)
          (fun w => civilModel_bad jd _ w h (size30 jd true year month day false hour minute second hasClock number isNumber zone utc loc subsec overflow failed) rfl (one_row jd true year month day false hour minute second hasClock number isNumber zone utc loc subsec overflow failed) rfl rfl rfl) (fun w => same_row 0 false 0 0 0 false 0 0 0 false 0 false 0 false false false 0 true w) (size30 jd true year month day false hour minute second hasClock number isNumber zone utc loc subsec overflow failed) (size30 0 false 0 0 0 false 0 0 0 false 0 false 0 false false false 0 true) rfl (one_row 0 false 0 0 0 false 0 0 0 false 0 false 0 false false false 0 true)
      · obtain ⟨n, hn⟩ : ∃ n, n = (jd + 43200000) / 86400000 - 1721120 := ⟨_, rfl⟩
        obtain ⟨E, q, t, v, r, hd⟩ := Cal.dec_ex n
        obtain ⟨y, m, d, he⟩ := era_ex E q t v r
        obtain ⟨wm, wd, hw, hi⟩ : ∃ wm wd, ((Cal.March y m d ∧ wm = 2 ∧ wd = 29) ∨ (¬ Cal.March y m d ∧ wm = m ∧ wd = d)) ∧ Cal.IsDate E q t v r y wm wd := by
          rcases date_of_era hd he with ⟨hm, h⟩ | ⟨hm, h⟩
          · exact ⟨2, 29, Or.inl ⟨hm, rfl, rfl⟩, h⟩
          · exact ⟨m, d, Or.inr ⟨hm, rfl, rfl⟩, h⟩
        have hd' : Cal.Dec ((jd + 43200000) / 86400000 - 1721120) E q t v r := by rw [← hn]; exact hd
        exact civilEra_core (row jd true year month day false hour minute second hasClock number isNumber zone utc loc subsec overflow failed) (row jd true y wm wd true hour minute second hasClock number isNumber zone utc loc subsec overflow failed) w (fun w => zzCivil_date jd year month day hour minute zone overflow second number hasClock isNumber utc loc subsec failed w (by omega) (by omega) hd' hi)
          (fun w => civilModel_main jd year month day hour minute zone overflow second number hasClock isNumber utc loc subsec failed _ w n y m d wm wd (by omega) (by omega) (show _ = _ by omega) (fun w => fromDays_any (by omega) (by omega) hd he w) hw rfl (size30 jd true year month day false hour minute second hasClock number isNumber zone utc loc subsec overflow failed) rfl (one_row jd true year month day false hour minute second hasClock number isNumber zone utc loc subsec overflow failed) rfl rfl rfl (row jd true y wm wd true hour minute second hasClock number isNumber zone utc loc subsec overflow failed) rfl (size30 jd true y wm wd true hour minute second hasClock number isNumber zone utc loc subsec overflow failed) rfl (one_row jd true y wm wd true hour minute second hasClock number isNumber zone utc loc subsec overflow failed))
          (fun w => same_row jd true y wm wd true hour minute second hasClock number isNumber zone utc loc subsec overflow failed w) (size30 jd true year month day false hour minute second hasClock number isNumber zone utc loc subsec overflow failed) (size30 jd true y wm wd true hour minute second hasClock number isNumber zone utc loc subsec overflow failed) rfl (one_row jd true y wm wd true hour minute second hasClock number isNumber zone utc loc subsec overflow failed)

theorem walk (jd : Int) (hasJD : Bool) (year month day : Int) (hasDate : Bool) (hour minute : Int) (second : Nat) (hasClock : Bool) (number : Nat) (isNumber : Bool) (zone : Int) (utc loc subsec : Bool) (overflow : Int) (failed : Bool) (w : World) :
    Calls Try.prog 8 #[.agg (row jd hasJD year month day hasDate hour minute second hasClock number isNumber zone utc loc subsec overflow failed)] w fun e w' => e = .returned (.bool true) ∧ Grown w w' := by
  refine (walk_ext jd hasJD year month day hasDate hour minute second hasClock number isNumber zone utc loc subsec overflow failed w).mono ?_
  rintro e w' ⟨rfl, hx⟩
  exact ⟨rfl, hx.grown⟩

/-! ### THE ROW's STEP -/
set_option maxRecDepth 100000 in
theorem lifted (os : Os) (started : os.Started) (H : Type) (enc : TypeId × Value → H) :
    ReturnsInHanded {} Try.checked os 8 .any (Rows.fnCivilEraCalendarModelSpec.pre6 enc Try.prog Try.f8 Rows.fnCivilEraCalendarModelRow.domain false) (Rows.fnCivilEraCalendarModelSpec.post enc Try.prog Try.f8 false true false false) := by
  refine returnsInHanded_of_change (C := Try.checked) own started (by kernel_rfl) Try.func8
    (ChangeSpec.witness6 (enc := enc) (C := Try.checked) false ⟨#[], #[.agg #[.int .i64 0, .bool false, .int .i64 0, .int .i64 0, .int .i64 0, .bool false, .int .i64 0, .int .i64 0, .float .f64 0, .bool false, .float .f64 0, .bool false, .int .i64 0, .bool false, .bool false, .bool false, .int .i64 0, .bool false]], []⟩ 8 (by kernel_rfl) (by kernel_rfl) (by kernel_rfl) (by kernel_rfl)) ?_
  intro W base args ds gs before hval0 hW hcnd _
  have hval : ∀ (j : Nat) t v, Try.f8.params[j]? = some t → args[j]? = some v → Value.okWide Try.prog W .any base t v := hval0
  have hW' := hW
  obtain ⟨p, q, hA0, hV, rfl, hfz, hnd⟩ := hW
  have hA : DataW.TrodAll enc Try.prog W 0 (fun _ => true) true Try.f8.params.toList args.toList ds p := hA0
  rw [Try.params8] at hA hval
  obtain ⟨v0, vs0, d0, ds0, p0, q0, hargs, rfl, rfl, h0, r0⟩ := trodAll_cons hA
  obtain ⟨rfl, rfl, rfl⟩ := trodAll_nil r0
  obtain rfl : args = #[v0] := by cases args; simp_all
  obtain ⟨rfl, rfl⟩ := trodVars_none hV
  obtain ⟨jd, hasJD, year, month, day, hasDate, hour, minute, second, hasClock, number, isNumber, zone, utc, loc, subsec, overflow, failed, hrow, rfl, wf0, wf1, wf2, wf3, wf4, wf5, wf6, wf7, wf8, wf9⟩ := moment_open (hval 0 30 v0 rfl rfl) h0
  clear hA0 hval0
  simp only [List.append_nil] at hW'
  have hw0 := walk jd hasJD year month day hasDate hour minute second hasClock number isNumber zone utc loc subsec overflow failed W
  rw [← hrow] at hw0
  refine hw0.mono fun e W' ⟨he, hg⟩ => ?_
  subst he
  exact ⟨_, rfl, post_of_same (pa := []) (pv := []) hW' (fun _ _ _ => (trodAll_cons_mk (shut_bool Try.underlying4 _) trodAll_mk0)) (fun sp _ => (trodAll_cons_mk (moment_shut h0) trodAll_mk0)) (fun _ _ => rfl) rfl
    (hg.frame _) hg.2.1 (ok_one (by kernel_rfl) rfl (okWide_bool_mk Try.underlying4 _))⟩

theorem over : Rows.fnCivilEraCalendarModelRow.holds Try.pinned (OpenSpec.ofChange Rows.fnCivilEraCalendarModelSpec) :=
  OpenClaim.holds_of_wide 8 Try.f8 rfl rfl rfl rfl rfl rfl rfl ⟨rfl, rfl, rfl, rfl, rfl⟩ rfl rfl rfl rfl rfl (by kernel_rfl) Try.func8 (by kernel_rfl)
    (of_decide_eq_true (by kernel_rfl)) (by unfold Func.isWrapper; first | (rw [if_pos (by decide +kernel)]; kernel_rfl) | (rw [if_neg (by decide +kernel)]; exact ⟨rfl, rfl⟩))
    (fun os started H enc _ => lifted os started H enc)

/-- THE STATEMENT -/
theorem proved : Rows.FnCivilEraCalendarModelSaid :=
  over
#print axioms proved
end Go.Proofs.Qxb6604200a.fnCivilEraCalendarModel
