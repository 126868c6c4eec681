/-
  What ZZJulian answers, whatever the moment: the fields as one row.
-/
import Derived.Test.Qxb6604200aCivilCall
import Derived.Test.Qxb6604200aJulianWalk
import Derived.Test.Qxb6604200aJulianClock
namespace Go.Proofs.Qxb6604200a
open Go.RowKit

theorem zzJulian_hasJD (jd year month day hour minute zone overflow : Int) (second number : Nat) (hasDate hasClock isNumber utc loc subsec failed : Bool) (w : World) :
    Calls Try.prog 20 #[.agg (row jd true year month day hasDate hour minute second hasClock number isNumber zone utc loc subsec overflow failed)] w fun e w' => e = .returned (.agg (row jd true year month day hasDate hour minute second hasClock number isNumber zone utc loc subsec overflow failed)) ∧ Ext w w' := by
  refine zzJulian_call jd year month day hour minute zone overflow second number true hasDate hasClock isNumber utc loc subsec failed jd year month day hour minute zone overflow second number true hasDate hasClock isNumber utc loc subsec failed w ?_
  intro W b hb
  subst hb
  refine (julian_has jd year month day hour minute zone overflow second number hasDate hasClock isNumber utc loc subsec failed W).mono ?_
  rintro e w' ⟨rfl, rfl⟩
  exact ⟨rfl, 0, rfl⟩

theorem zzJulian_fails (jd year month day hour minute zone overflow : Int) (second number : Nat) (hasDate hasClock isNumber utc loc subsec failed : Bool) (w : World) (Ys Ms Ds : Int) (hst : (hasDate = true ∧ Ys = year ∧ Ms = month ∧ Ds = day) ∨ (hasDate = false ∧ Ys = 2000 ∧ Ms = 1 ∧ Ds = 1)) (h : Ys < -4713 ∨ 9999 < Ys ∨ isNumber = true) :
    Calls Try.prog 20 #[.agg (row jd false year month day hasDate hour minute second hasClock number isNumber zone utc loc subsec overflow failed)] w fun e w' => e = .returned (.agg (row 0 false 0 0 0 false 0 0 0 false 0 false 0 false false false 0 true)) ∧ Ext w w' := by
  refine zzJulian_call jd year month day hour minute zone overflow second number false hasDate hasClock isNumber utc loc subsec failed 0 0 0 0 0 0 0 0 0 0 false false false false false false false true w ?_
  intro W b hb
  subst hb
  exact julian_fail jd year month day hour minute zone overflow second number hasDate hasClock isNumber utc loc subsec failed W Ys Ms Ds hst h

/-- n: the days of the date after 0000-03-01 -/
structure Counted (Ys Ms Ds Yp Mp n : Int) : Prop where
  y1 : -4713 ≤ Ys
  y2 : Ys ≤ 9999
  m1 : 1 ≤ Ms
  m2 : Ms ≤ 12
  d1 : -16777216 ≤ Ds
  d2 : Ds ≤ 16777216
  hp : (Ms ≤ 2 ∧ Yp = Ys - 1 ∧ Mp = Ms + 12) ∨ (2 < Ms ∧ Yp = Ys ∧ Mp = Ms)
  hn : Cal.S Yp + (153 * (Mp - 3) + 2) / 5 + Ds - 1 = n

theorem counted_ex {Ys Ms Ds : Int} (y1 : -4713 ≤ Ys) (y2 : Ys ≤ 9999) (m1 : 1 ≤ Ms) (m2 : Ms ≤ 12) (d1 : -16777216 ≤ Ds) (d2 : Ds ≤ 16777216) : ∃ Yp Mp n, Counted Ys Ms Ds Yp Mp n := by
  by_cases h : Ms ≤ 2
  · exact ⟨_, _, _, y1, y2, m1, m2, d1, d2, Or.inl ⟨h, rfl, rfl⟩, rfl⟩
  · exact ⟨_, _, _, y1, y2, m1, m2, d1, d2, Or.inr ⟨by omega, rfl, rfl⟩, rfl⟩

theorem Counted.val {Ys Ms Ds Yp Mp n : Int} (h : Counted Ys Ms Ds Yp Mp n) : n + 1722644 = 36525 * (Yp + 4716) / 100 + 306001 * (Mp + 1) / 10000 + Ds + (38 - (Yp + 4800) / 100 + (Yp + 4800) / 100 / 4) ∧ -20000000 ≤ n ∧ n ≤ 22000000 ∧ -1721753 ≤ Cal.S Yp ∧ Cal.S Yp ≤ 3652059 ∧ 3 ≤ Mp ∧ Mp ≤ 14 := by
  obtain ⟨y1, y2, m1, m2, d1, d2, hp, hn⟩ := h
  have hv := Cal.jul_val Yp Mp Ds (by omega) (by omega)
  have hS : -1721753 ≤ Cal.S Yp ∧ Cal.S Yp ≤ 3652059 := by unfold Cal.S; omega
  rw [hn] at hv
  refine ⟨hv.symm, ?_, ?_, hS.1, hS.2, ?_, ?_⟩ <;> omega

theorem zzJulian_plain (jd year month day hour minute zone overflow : Int) (second number : Nat) (hasDate utc loc subsec failed : Bool) (w : World) (Ys Ms Ds Yp Mp n B : Int) (hst : (hasDate = true ∧ Ys = year ∧ Ms = month ∧ Ds = day) ∨ (hasDate = false ∧ Ys = 2000 ∧ Ms = 1 ∧ Ds = 1)) (hc : Counted Ys Ms Ds Yp Mp n) (hB : B = 86400000 * (n + 1721120) - 43200000) :
    Calls Try.prog 20 #[.agg (row jd false year month day hasDate hour minute second false number false zone utc loc subsec overflow failed)] w fun e w' => e = .returned (.agg (row B true year month day hasDate hour minute second false number false zone utc loc subsec overflow failed)) ∧ Ext w w' := by
  obtain ⟨hv, v1, v2, _, _, _, _⟩ := hc.val
  refine zzJulian_call jd year month day hour minute zone overflow second number false hasDate false false utc loc subsec failed B year month day hour minute zone overflow second number true hasDate false false utc loc subsec failed w ?_
  intro W b hb
  subst hb
  refine (julian_plain jd year month day hour minute zone overflow second number hasDate utc loc subsec failed W Ys Ms Ds Yp Mp (n + 1722644) hst hc.y1 hc.y2 hc.m1 hc.m2 hc.d1 hc.d2 hc.hp hv (by omega) (by omega)).mono ?_
  rintro e w' ⟨rfl, k, rfl⟩
  refine ⟨rfl, k, ?_⟩
  rw [hB, show (2 * (n + 1722644) - 3049) * 43200000 = 86400000 * (n + 1721120) - 43200000 by omega]
  rfl

theorem zzJulian_clock0 (jd year month day hour minute zone overflow : Int) (second number : Nat) (hasDate utc loc subsec failed : Bool) (w : World) (Ys Ms Ds Yp Mp n B : Int) (hst : (hasDate = true ∧ Ys = year ∧ Ms = month ∧ Ds = day) ∨ (hasDate = false ∧ Ys = 2000 ∧ Ms = 1 ∧ Ds = 1)) (hc : Counted Ys Ms Ds Yp Mp n) (hB : B = 86400000 * (n + 1721120) - 43200000)
    (r3 r4 : Nat) (V J : Int) (hJ : J = wrap64 (B + wrap64 (wrap64 (wrap64 (hour * 3600000) + wrap64 (minute * 60000)) + V))) (fv1 : floatBits .mul .f64 second 4652007308841189376 = some r3) (fv2 : floatBits .add .f64 r3 4602678819172646912 = some r4) (fv3 : floatToIntVal .f64 r4 .i64 = some V) (hz : (zone != 0) = false) :
    Calls Try.prog 20 #[.agg (row jd false year month day hasDate hour minute second true number false zone utc loc subsec overflow failed)] w fun e w' => e = .returned (.agg (row J true year month day hasDate hour minute second true number false zone utc loc subsec overflow failed)) ∧ Ext w w' := by
  obtain ⟨hv, v1, v2, _, _, _, _⟩ := hc.val
  refine zzJulian_call jd year month day hour minute zone overflow second number false hasDate true false utc loc subsec failed J year month day hour minute zone overflow second number true hasDate true false utc loc subsec failed w ?_
  intro W b hb
  subst hb
  exact julian_clock0 jd year month day hour minute zone overflow second number hasDate utc loc subsec failed W Ys Ms Ds Yp Mp (n + 1722644) hst hc.y1 hc.y2 hc.m1 hc.m2 hc.d1 hc.d2 hc.hp hv (by omega) (by omega) r3 r4 V B (show _ = _ by omega) J hJ fv1 fv2 fv3 hz

theorem zzJulian_clock1 (jd year month day hour minute zone overflow : Int) (second number : Nat) (hasDate utc loc subsec failed : Bool) (w : World) (Ys Ms Ds Yp Mp n B : Int) (hst : (hasDate = true ∧ Ys = year ∧ Ms = month ∧ Ds = day) ∨ (hasDate = false ∧ Ys = 2000 ∧ Ms = 1 ∧ Ds = 1)) (hc : Counted Ys Ms Ds Yp Mp n) (hB : B = 86400000 * (n + 1721120) - 43200000)
    (r3 r4 : Nat) (V J J2 : Int) (hJ : J = wrap64 (B + wrap64 (wrap64 (wrap64 (hour * 3600000) + wrap64 (minute * 60000)) + V))) (fv1 : floatBits .mul .f64 second 4652007308841189376 = some r3) (fv2 : floatBits .add .f64 r3 4602678819172646912 = some r4) (fv3 : floatToIntVal .f64 r4 .i64 = some V) (hJ2 : J2 = wrap64 (J - wrap64 (zone * 60000))) (hz : (zone != 0) = true) :
    Calls Try.prog 20 #[.agg (row jd false year month day hasDate hour minute second true number false zone utc loc subsec overflow failed)] w fun e w' => e = .returned (.agg (row J2 true year month day false hour minute second false number false 0 true false subsec overflow failed)) ∧ Ext w w' := by
  obtain ⟨hv, v1, v2, _, _, _, _⟩ := hc.val
  refine zzJulian_call jd year month day hour minute zone overflow second number false hasDate true false utc loc subsec failed J2 year month day hour minute 0 overflow second number true false false false true false subsec failed w ?_
  intro W b hb
  subst hb
  exact julian_clock1 jd year month day hour minute zone overflow second number hasDate utc loc subsec failed W Ys Ms Ds Yp Mp (n + 1722644) hst hc.y1 hc.y2 hc.m1 hc.m2 hc.d1 hc.d2 hc.hp hv (by omega) (by omega) r3 r4 V B (show _ = _ by omega) J hJ fv1 fv2 fv3 J2 hJ2 hz

end Go.Proofs.Qxb6604200a
