/-
  What ZZJulian answers: the fields of a moment as one row.
-/
import Derived.Test.Qxb6604200aCivilCall
import Derived.Test.Qxb6604200aJulianWalk
namespace Go.Proofs.Qxb6604200a
open Go.RowKit

/-- ZZJulian of a date without a time of day: n: the days of the date after 0000-03-01 -/
theorem zzJulian_date (jd year month day hour minute zone overflow : Int) (second number : Nat) (utc loc subsec failed : Bool) (w : World) (n : Int) (y1 : -4713 ≤ year) (y2 : year ≤ 9999) (m1 : 1 ≤ month) (m2 : month ≤ 12) (d1 : -16777216 ≤ day) (d2 : day ≤ 16777216)
    (hn1 : month ≤ 2 → Cal.S (year - 1) + (153 * (month + 12 - 3) + 2) / 5 + day - 1 = n) (hn2 : 2 < month → Cal.S year + (153 * (month - 3) + 2) / 5 + day - 1 = n) :
    Calls Try.prog 20 #[.agg (row jd false year month day true hour minute second false number false zone utc loc subsec overflow failed)] w fun e w' => e = .returned (.agg (row (86400000 * (n + 1721120) - 43200000) true year month day true hour minute second false number false zone utc loc subsec overflow failed)) ∧ Ext w w' := by
  obtain ⟨Yp, Mp, hp⟩ : ∃ Yp Mp, (month ≤ 2 ∧ Yp = year - 1 ∧ Mp = month + 12) ∨ (2 < month ∧ Yp = year ∧ Mp = month) := by
    by_cases h : month ≤ 2
    · exact ⟨_, _, Or.inl ⟨h, rfl, rfl⟩⟩
    · exact ⟨_, _, Or.inr ⟨by omega, rfl, rfl⟩⟩
  have hv := Cal.jul_val Yp Mp day (by omega) (by omega)
  have hn : Cal.S Yp + (153 * (Mp - 3) + 2) / 5 + day - 1 = n := by
    rcases hp with ⟨h, rfl, rfl⟩ | ⟨h, rfl, rfl⟩
    · exact hn1 h
    · exact hn2 h
  have hS : -1721753 ≤ Cal.S Yp ∧ Cal.S Yp ≤ 3652059 := by unfold Cal.S; omega
  rw [hn] at hv
  refine zzJulian_call jd year month day hour minute zone overflow second number false true false false utc loc subsec failed (86400000 * (n + 1721120) - 43200000) year month day hour minute zone overflow second number true true false false utc loc subsec failed w ?_
  intro W b hb
  subst hb
  refine (julian_plain jd year month day hour minute zone overflow second number true utc loc subsec failed W year month day Yp Mp (n + 1722644) (Or.inl ⟨rfl, rfl, rfl, rfl⟩) y1 y2 m1 m2 d1 d2 hp hv.symm (by omega) (by omega)).mono ?_
  rintro e w' ⟨rfl, k, rfl⟩
  refine ⟨rfl, k, ?_⟩
  rw [show (2 * (n + 1722644) - 3049) * 43200000 = 86400000 * (n + 1721120) - 43200000 by omega]
  rfl

theorem zzJulian_bad (jd year month day hour minute zone overflow : Int) (second number : Nat) (hasClock isNumber utc loc subsec failed : Bool) (w : World) (h : year < -4713 ∨ 9999 < year ∨ isNumber = true) :
    Calls Try.prog 20 #[.agg (row jd false year month day true hour minute second hasClock number isNumber zone utc loc subsec overflow failed)] w fun e w' => e = .returned (.agg (row 0 false 0 0 0 false 0 0 0 false 0 false 0 false false false 0 true)) ∧ Ext w w' := by
  refine zzJulian_call jd year month day hour minute zone overflow second number false true hasClock isNumber utc loc subsec failed 0 0 0 0 0 0 0 0 0 0 false false false false false false false true w ?_
  intro W b hb
  subst hb
  exact julian_fail jd year month day hour minute zone overflow second number true hasClock isNumber utc loc subsec failed W year month day (Or.inl ⟨rfl, rfl, rfl, rfl⟩) h

end Go.Proofs.Qxb6604200a
