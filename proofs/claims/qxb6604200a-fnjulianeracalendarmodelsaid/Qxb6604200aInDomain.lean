/-
  zzJulianInDomain.
-/
import Derived.Test.Qxb6604200aModelBase
namespace Go.Proofs.Qxb6604200a
open Go.RowKit

set_option maxHeartbeats 1000000 in
set_option maxRecDepth 10000 in
theorem inDomain_has (C : Array Value) (w : World) (c1 : C[1]? = some (.bool true)) :
    Calls Try.prog 19 #[.agg C] w fun e w' => e = .returned (.bool true) ∧ Ext w w' := by
  have f1 := cell_row w C 30 1 _ c1
  clear c1
  go_enter Try.func19, Try.ntmps19
  go_wp2
  go_ret
  exact ⟨rfl, ext_alloc w C 30⟩

set_option maxHeartbeats 1000000 in
set_option maxRecDepth 10000 in
theorem inDomain_number (C : Array Value) (w : World) (c1 : C[1]? = some (.bool false)) (c11 : C[11]? = some (.bool true)) :
    Calls Try.prog 19 #[.agg C] w fun e w' => e = .returned (.bool true) ∧ Ext w w' := by
  have f1 := cell_row w C 30 1 _ c1
  have f11 := cell_row w C 30 11 _ c11
  clear c1 c11
  go_enter Try.func19, Try.ntmps19
  go_wp2
  go_ret
  exact ⟨rfl, ext_alloc w C 30⟩

set_option maxHeartbeats 1000000 in
set_option maxRecDepth 10000 in
theorem inDomain_year (year : Int) (C : Array Value) (w : World) (h : year < -4713 ∨ 9999 < year) (c1 : C[1]? = some (.bool false)) (c11 : C[11]? = some (.bool false)) (c5 : C[5]? = some (.bool true)) (c2 : C[2]? = some (.int .i64 year)) :
    Calls Try.prog 19 #[.agg C] w fun e w' => e = .returned (.bool true) ∧ Ext w w' := by
  have HB : Hid (year < -4713 ∨ 9999 < year) := h
  clear h
  have f1 := cell_row w C 30 1 _ c1
  have f11 := cell_row w C 30 11 _ c11
  have f5 := cell_row w C 30 5 _ c5
  have f2 := cell_row w C 30 2 _ c2
  clear c1 c11 c5 c2
  by_cases h1 : year < -4713
  · go_enter Try.func19, Try.ntmps19
    go_wp2
    go_ret
    exact ⟨rfl, ext_alloc w C 30⟩
  · have h2 : 9999 < year := by
      rcases HB.out with h | h
      · exact absurd h h1
      · exact h
    go_enter Try.func19, Try.ntmps19
    go_wp2
    go_ret
    exact ⟨rfl, ext_alloc w C 30⟩

set_option maxHeartbeats 1000000 in
set_option maxRecDepth 10000 in
theorem inDomain_date (year month day : Int) (C : Array Value) (w : World) (y1 : -4713 ≤ year) (y2 : year ≤ 9999) (h : month < 1 ∨ 12 < month ∨ day < -16777216 ∨ 16777216 < day) (c1 : C[1]? = some (.bool false)) (c11 : C[11]? = some (.bool false)) (c5 : C[5]? = some (.bool true)) (c2 : C[2]? = some (.int .i64 year)) (c3 : C[3]? = some (.int .i64 month)) (c4 : C[4]? = some (.int .i64 day)) :
    Calls Try.prog 19 #[.agg C] w fun e w' => e = .returned (.bool false) ∧ Ext w w' := by
  have HB : Hid (month < 1 ∨ 12 < month ∨ day < -16777216 ∨ 16777216 < day) := h
  clear h
  have f1 := cell_row w C 30 1 _ c1
  have f11 := cell_row w C 30 11 _ c11
  have f5 := cell_row w C 30 5 _ c5
  have f2 := cell_row w C 30 2 _ c2
  have f3 := cell_row w C 30 3 _ c3
  have f4 := cell_row w C 30 4 _ c4
  clear c1 c11 c5 c2 c3 c4
  by_cases h1 : month < 1
  · go_enter Try.func19, Try.ntmps19
    go_wp2
    go_ret
    exact ⟨rfl, ext_alloc w C 30⟩
  · by_cases h2 : 12 < month
    · go_enter Try.func19, Try.ntmps19
      go_wp2
      go_ret
      exact ⟨rfl, ext_alloc w C 30⟩
    · by_cases h3 : day < -16777216
      · go_enter Try.func19, Try.ntmps19
        go_wp2
        go_ret
        exact ⟨rfl, ext_alloc w C 30⟩
      · have h4 : 16777216 < day := by
          rcases HB.out with h | h | h | h
          · exact absurd h h1
          · exact absurd h h2
          · exact absurd h h3
          · exact h
        go_enter Try.func19, Try.ntmps19
        go_wp2
        go_ret
        exact ⟨rfl, ext_alloc w C 30⟩

set_option maxHeartbeats 1000000 in
set_option maxRecDepth 10000 in
theorem inDomain_clock (year month day : Int) (hasDate hasClock : Bool) (second : Nat) (A B : Bool) (C : Array Value) (w : World) (hA : Hid ((FloatKind.f64.format.order second 14010698440749613056 == some .gt || FloatKind.f64.format.order second 14010698440749613056 == some .eq) = A)) (hB : Hid ((FloatKind.f64.format.order second 4787326403894837248 == some .lt || FloatKind.f64.format.order second 4787326403894837248 == some .eq) = B))
    (hD : Hid (hasDate = false ∨ (hasDate = true ∧ -4713 ≤ year ∧ year ≤ 9999 ∧ 1 ≤ month ∧ month ≤ 12 ∧ -16777216 ≤ day ∧ day ≤ 16777216))) (c1 : C[1]? = some (.bool false)) (c11 : C[11]? = some (.bool false)) (c5 : C[5]? = some (.bool hasDate)) (c2 : C[2]? = some (.int .i64 year)) (c3 : C[3]? = some (.int .i64 month)) (c4 : C[4]? = some (.int .i64 day)) (c8 : C[8]? = some (.float .f64 second)) (c9 : C[9]? = some (.bool hasClock)) :
    Calls Try.prog 19 #[.agg C] w fun e w' => e = .returned (.bool (!hasClock || (A && B))) ∧ Ext w w' := by
  have f1 := cell_row w C 30 1 _ c1
  have f11 := cell_row w C 30 11 _ c11
  have f5 := cell_row w C 30 5 _ c5
  have f2 := cell_row w C 30 2 _ c2
  have f3 := cell_row w C 30 3 _ c3
  have f4 := cell_row w C 30 4 _ c4
  have f8 := cell_row w C 30 8 _ c8
  have f9 := cell_row w C 30 9 _ c9
  clear c1 c11 c5 c2 c3 c4 c8 c9
  go_enter Try.func19, Try.ntmps19
  go_upto_if 10 with fail
  go_cut [10] (fun a wx => a = .bool hasDate ∧ wx = w.alloc (.cells C 30))
  case first =>
    rcases hD.out with rfl | ⟨rfl, a1, a2, a3, a4, a5, a6⟩
    · go_wp2_with fail
      go_meet
      case rel => exact ⟨rfl, rfl⟩
    · go_wp2_with fail
      go_meet
      case rel => exact ⟨rfl, rfl⟩
  case rest =>
    obtain ⟨_, rfl⟩ := hcut
    cases hasClock with
    | false =>
      go_wp2
      go_ret
      exact ⟨rfl, ext_alloc w C 30⟩
    | true =>
      have qA := hA.out
      have qB := hB.out
      cases A with
      | false =>
        go_wp2
        go_ret
        exact ⟨rfl, ext_alloc w C 30⟩
      | true =>
        cases B with
        | false =>
          go_wp2
          go_ret
          exact ⟨rfl, ext_alloc w C 30⟩
        | true =>
          go_wp2
          go_ret
          exact ⟨rfl, ext_alloc w C 30⟩

end Go.Proofs.Qxb6604200a
