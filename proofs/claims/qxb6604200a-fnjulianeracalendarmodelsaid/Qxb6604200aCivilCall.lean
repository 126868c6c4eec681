/-
  What ZZCivil answers: the fields of a moment as one row.
-/
import Derived.Test.Qxb6604200aShims
import Derived.Test.Qxb6604200aCivilWalk
import Derived.Test.Qxb6604200aCalLaws
namespace Go.Proofs.Qxb6604200a
open Go.RowKit

/-- a moment's cells -/
def row (jd : Int) (hasJD : Bool) (year month day : Int) (hasDate : Bool) (hour minute : Int) (second : Nat) (hasClock : Bool) (number : Nat) (isNumber : Bool) (zone : Int) (utc loc subsec : Bool) (overflow : Int) (failed : Bool) : Array Value :=
  #[.int .i64 jd, .bool hasJD, .int .i64 year, .int .i64 month, .int .i64 day, .bool hasDate, .int .i64 hour, .int .i64 minute, .float .f64 second, .bool hasClock, .float .f64 number, .bool isNumber, .int .i64 zone, .bool utc, .bool loc, .bool subsec, .int .i64 overflow, .bool failed]

theorem zzCivil_call (jd year month day hour minute zone overflow : Int) (second number : Nat) (hasJD hasDate hasClock isNumber utc loc subsec failed : Bool) (jd2 year2 month2 day2 hour2 minute2 zone2 overflow2 : Int) (second2 number2 : Nat) (hasJD2 hasDate2 hasClock2 isNumber2 utc2 loc2 subsec2 failed2 : Bool) (w : World)
    (hc : ∀ (W : World) (b : Nat), W.heap.size = b → Calls Try.prog 34 #[.pointer (some ⟨b, 0, none⟩)] (W.alloc (.cells (row jd hasJD year month day hasDate hour minute second hasClock number isNumber zone utc loc subsec overflow failed) 53)) fun e w' => e = .returned (.tuple #[]) ∧ ∃ k, w' = (W.alloc (.cells (row jd2 hasJD2 year2 month2 day2 hasDate2 hour2 minute2 second2 hasClock2 number2 isNumber2 zone2 utc2 loc2 subsec2 overflow2 failed2) 53)).drewN k) :
    Calls Try.prog 24 #[.agg (row jd hasJD year month day hasDate hour minute second hasClock number isNumber zone utc loc subsec overflow failed)] w fun e w' => e = .returned (.agg (row jd2 hasJD2 year2 month2 day2 hasDate2 hour2 minute2 second2 hasClock2 number2 isNumber2 zone2 utc2 loc2 subsec2 overflow2 failed2)) ∧ Ext w w' :=
  zzCivil_row (row jd hasJD year month day hasDate hour minute second hasClock number isNumber zone utc loc subsec overflow failed) (row jd2 hasJD2 year2 month2 day2 hasDate2 hour2 minute2 second2 hasClock2 number2 isNumber2 zone2 utc2 loc2 subsec2 overflow2 failed2) w (size32 jd2 year2 month2 day2 hour2 minute2 zone2 overflow2 second2 number2 hasJD2 hasDate2 hasClock2 isNumber2 utc2 loc2 subsec2 failed2) (size32 jd year month day hour minute zone overflow second number hasJD hasDate hasClock isNumber utc loc subsec failed) rfl (one18 jd2 year2 month2 day2 hour2 minute2 zone2 overflow2 second2 number2 hasJD2 hasDate2 hasClock2 isNumber2 utc2 loc2 subsec2 failed2) (fun w => from_any jd year month day hour minute zone overflow second number hasJD hasDate hasClock isNumber utc loc subsec failed w) hc (fun W k b hb => of_b jd2 year2 month2 day2 hour2 minute2 zone2 overflow2 second2 number2 hasJD2 hasDate2 hasClock2 isNumber2 utc2 loc2 subsec2 failed2 W k b hb)

theorem zzJulian_call (jd year month day hour minute zone overflow : Int) (second number : Nat) (hasJD hasDate hasClock isNumber utc loc subsec failed : Bool) (jd2 year2 month2 day2 hour2 minute2 zone2 overflow2 : Int) (second2 number2 : Nat) (hasJD2 hasDate2 hasClock2 isNumber2 utc2 loc2 subsec2 failed2 : Bool) (w : World)
    (hc : ∀ (W : World) (b : Nat), W.heap.size = b → Calls Try.prog 30 #[.pointer (some ⟨b, 0, none⟩)] (W.alloc (.cells (row jd hasJD year month day hasDate hour minute second hasClock number isNumber zone utc loc subsec overflow failed) 53)) fun e w' => e = .returned (.tuple #[]) ∧ ∃ k, w' = (W.alloc (.cells (row jd2 hasJD2 year2 month2 day2 hasDate2 hour2 minute2 second2 hasClock2 number2 isNumber2 zone2 utc2 loc2 subsec2 overflow2 failed2) 53)).drewN k) :
    Calls Try.prog 20 #[.agg (row jd hasJD year month day hasDate hour minute second hasClock number isNumber zone utc loc subsec overflow failed)] w fun e w' => e = .returned (.agg (row jd2 hasJD2 year2 month2 day2 hasDate2 hour2 minute2 second2 hasClock2 number2 isNumber2 zone2 utc2 loc2 subsec2 overflow2 failed2)) ∧ Ext w w' :=
  zzJulian_row (row jd hasJD year month day hasDate hour minute second hasClock number isNumber zone utc loc subsec overflow failed) (row jd2 hasJD2 year2 month2 day2 hasDate2 hour2 minute2 second2 hasClock2 number2 isNumber2 zone2 utc2 loc2 subsec2 overflow2 failed2) w (size32 jd2 year2 month2 day2 hour2 minute2 zone2 overflow2 second2 number2 hasJD2 hasDate2 hasClock2 isNumber2 utc2 loc2 subsec2 failed2) (size32 jd year month day hour minute zone overflow second number hasJD hasDate hasClock isNumber utc loc subsec failed) rfl (one18 jd2 year2 month2 day2 hour2 minute2 zone2 overflow2 second2 number2 hasJD2 hasDate2 hasClock2 isNumber2 utc2 loc2 subsec2 failed2) (fun w => from_any jd year month day hour minute zone overflow second number hasJD hasDate hasClock isNumber utc loc subsec failed w) hc (fun W k b hb => of_b jd2 year2 month2 day2 hour2 minute2 zone2 overflow2 second2 number2 hasJD2 hasDate2 hasClock2 isNumber2 utc2 loc2 subsec2 failed2 W k b hb)

theorem civil_b (jd year month day hour minute zone overflow : Int) (second number : Nat) (hasClock isNumber utc loc subsec failed : Bool) (h1 : 0 ≤ jd) (h2 : jd ≤ 464269060799999) (y m d A B C D e : Int) (ho : Cal.CivOut ((jd + 43200000) / 86400000) y m d A B C D e) :
    ∀ (W : World) (b : Nat), W.heap.size = b → Calls Try.prog 34 #[.pointer (some ⟨b, 0, none⟩)] (W.alloc (.cells (row jd true year month day false hour minute second hasClock number isNumber zone utc loc subsec overflow failed) 53)) fun e w' => e = .returned (.tuple #[]) ∧ ∃ k, w' = (W.alloc (.cells (row jd true y m d true hour minute second hasClock number isNumber zone utc loc subsec overflow failed) 53)).drewN k := by
  intro W b hb
  subst hb
  obtain ⟨hA, hB, hC, hD, hE, bA1, bA2, bT1, bT2, bB1, bB2, bC1, bC2, bD1, bD2, hout, hday⟩ := ho
  rcases hout with ⟨e1, e2, hm, hy⟩ | ⟨e1, e2, hm, hy⟩
  · subst hm hy hday
    refine (civil_main1 jd year month day hour minute zone overflow second number hasClock isNumber utc loc subsec failed W h1 h2 _ A B C D e rfl hA hB hC hD hE bA1 bA2 bT1 bT2 bB1 bB2 bC1 bC2 bD1 bD2 ⟨e1, e2⟩).mono ?_
    rintro e w' ⟨rfl, rfl⟩
    exact ⟨rfl, 0, rfl⟩
  · subst hm hy hday
    refine (civil_main2 jd year month day hour minute zone overflow second number hasClock isNumber utc loc subsec failed W h1 h2 _ A B C D e rfl hA hB hC hD hE bA1 bA2 bT1 bT2 bB1 bB2 bC1 bC2 bD1 bD2 ⟨e1, e2⟩).mono ?_
    rintro e w' ⟨rfl, rfl⟩
    exact ⟨rfl, 0, rfl⟩

/-- ZZCivil of a julian day that SQLite writes -/
theorem zzCivil_date (jd year month day hour minute zone overflow : Int) (second number : Nat) (hasClock isNumber utc loc subsec failed : Bool) (w : World) (h1 : 0 ≤ jd) (h2 : jd ≤ 464269060799999) {E q t v r y m d : Int} (hd : Cal.Dec ((jd + 43200000) / 86400000 - 1721120) E q t v r) (hi : Cal.IsDate E q t v r y m d) :
    Calls Try.prog 24 #[.agg (row jd true year month day false hour minute second hasClock number isNumber zone utc loc subsec overflow failed)] w fun e w' => e = .returned (.agg (row jd true y m d true hour minute second hasClock number isNumber zone utc loc subsec overflow failed)) ∧ Ext w w' := by
  obtain ⟨A, B, C, D, e, ho⟩ := Cal.civ_out ((jd + 43200000) / 86400000) (by omega) (by omega) hd hi
  exact zzCivil_call jd year month day hour minute zone overflow second number true false hasClock isNumber utc loc subsec failed jd y m d hour minute zone overflow second number true true hasClock isNumber utc loc subsec failed w (civil_b jd year month day hour minute zone overflow second number hasClock isNumber utc loc subsec failed h1 h2 y m d A B C D e ho)

theorem zzCivil_bad (jd year month day hour minute zone overflow : Int) (second number : Nat) (hasClock isNumber utc loc subsec failed : Bool) (w : World) (h : jd < 0 ∨ 464269060799999 < jd) :
    Calls Try.prog 24 #[.agg (row jd true year month day false hour minute second hasClock number isNumber zone utc loc subsec overflow failed)] w fun e w' => e = .returned (.agg (row 0 false 0 0 0 false 0 0 0 false 0 false 0 false false false 0 true)) ∧ Ext w w' :=
  zzCivil_call jd year month day hour minute zone overflow second number true false hasClock isNumber utc loc subsec failed 0 0 0 0 0 0 0 0 0 0 false false false false false false false true w (fun W b hb => by
    subst hb
    refine (civil_bad jd year month day hour minute zone overflow second number hasClock isNumber utc loc subsec failed W h).mono ?_
    rintro e w' ⟨rfl, rfl⟩
    exact ⟨rfl, 0, rfl⟩)

theorem zzCivil_has (jd year month day hour minute zone overflow : Int) (second number : Nat) (hasJD hasClock isNumber utc loc subsec failed : Bool) (w : World) :
    Calls Try.prog 24 #[.agg (row jd hasJD year month day true hour minute second hasClock number isNumber zone utc loc subsec overflow failed)] w fun e w' => e = .returned (.agg (row jd hasJD year month day true hour minute second hasClock number isNumber zone utc loc subsec overflow failed)) ∧ Ext w w' :=
  zzCivil_call jd year month day hour minute zone overflow second number hasJD true hasClock isNumber utc loc subsec failed jd year month day hour minute zone overflow second number hasJD true hasClock isNumber utc loc subsec failed w (fun W b hb => by
    subst hb
    refine (civil_date jd year month day hour minute zone overflow second number hasJD hasClock isNumber utc loc subsec failed W).mono ?_
    rintro e w' ⟨rfl, rfl⟩
    exact ⟨rfl, 0, rfl⟩)

theorem zzCivil_none (jd year month day hour minute zone overflow : Int) (second number : Nat) (hasClock isNumber utc loc subsec failed : Bool) (w : World) :
    Calls Try.prog 24 #[.agg (row jd false year month day false hour minute second hasClock number isNumber zone utc loc subsec overflow failed)] w fun e w' => e = .returned (.agg (row jd false 2000 1 1 true hour minute second hasClock number isNumber zone utc loc subsec overflow failed)) ∧ Ext w w' :=
  zzCivil_call jd year month day hour minute zone overflow second number false false hasClock isNumber utc loc subsec failed jd 2000 1 1 hour minute zone overflow second number false true hasClock isNumber utc loc subsec failed w (fun W b hb => by
    subst hb
    refine (civil_none jd year month day hour minute zone overflow second number hasClock isNumber utc loc subsec failed W).mono ?_
    rintro e w' ⟨rfl, rfl⟩
    exact ⟨rfl, 0, rfl⟩)

end Go.Proofs.Qxb6604200a
