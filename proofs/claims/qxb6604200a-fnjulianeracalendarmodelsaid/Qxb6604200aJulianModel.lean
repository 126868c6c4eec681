/-
  zzJulianModel: its small ways.
-/
import Derived.Test.Qxb6604200aModelBase
namespace Go.Proofs.Qxb6604200a
open Go.RowKit
attribute [local go_sem] run_store_float

set_option maxHeartbeats 1000000 in
set_option maxRecDepth 10000 in
theorem julianModel_has (C : Array Value) (w : World) (SC : Hid ((Try.prog.info? 30).map (·.size) = some C.size)) (ZC : Hid (18 = C.size)) (OC : Hid (C.all (·.oneCell') = true)) (c1 : C[1]? = some (.bool true)) :
    Calls Try.prog 22 #[.agg C] w fun e w' => e = .returned (.agg C) ∧ Ext w w' := by
  have f1 := cell_one w C (.cells #[.int .i64 0, .bool false, .int .i64 0, .int .i64 0, .int .i64 0, .bool false, .int .i64 0, .int .i64 0, .float .f64 0, .bool false, .float .f64 0, .bool false, .int .i64 0, .bool false, .bool false, .bool false, .int .i64 0, .bool false] 30) 1 _ c1
  clear c1
  go_enter Try.func22, Try.ntmps22
  go_wp2_with (first | ((with_reducible refine wpList_load_two ?_ 30 (.tmp 1) ?_ ?_ 30 C _ Try.underlying30 rfl SC.out ?_); (exact rfl); (exact rfl); (exact rfl)) | ((with_reducible refine wpList_store_g ?_ 30 (.tmp 2) (.tmp 11) ?_ (w.heap.size + 1) ?_ C ?_ ?_ 30 _ SC.out ?_ OC.out ?_); (exact rfl); (exact rfl); (simp); (exact rfl); (exact rfl); (exact ZC.out)))
  refine bodyPost_ret (results_cell rfl _ _ _ (w.heap.size + 1) C rfl (run_loadVar_row _ _ 30 30 _ (0, 0) _ (heap_at0 _ _ _ (by simp)) Try.underlying30 rfl SC.out)) rfl ⟨rfl, (ext_alloc w C 30).trans (ext_alloc _ _ _)⟩

set_option maxHeartbeats 1000000 in
set_option maxRecDepth 10000 in
theorem julianModel_bad (year month day Ys Ms Ds : Int) (hasDate isNumber : Bool) (C : Array Value) (w : World) (hst : Hid ((hasDate = true ∧ Ys = year ∧ Ms = month ∧ Ds = day) ∨ (hasDate = false ∧ Ys = 2000 ∧ Ms = 1 ∧ Ds = 1))) (hbad : Ys < -4713 ∨ 9999 < Ys ∨ isNumber = true) (c1 : C[1]? = some (.bool false)) (c2 : C[2]? = some (.int .i64 year)) (c3 : C[3]? = some (.int .i64 month)) (c4 : C[4]? = some (.int .i64 day)) (c5 : C[5]? = some (.bool hasDate)) (c11 : C[11]? = some (.bool isNumber)) :
    Calls Try.prog 22 #[.agg C] w fun e w' => e = .returned (.agg (row 0 false 0 0 0 false 0 0 0 false 0 false 0 false false false 0 true)) ∧ Ext w w' := by
  have HB : Hid (Ys < -4713 ∨ 9999 < Ys ∨ isNumber = true) := hbad
  clear hbad
  have f1 := cell_one w C (.cells #[.int .i64 0, .bool false, .int .i64 0, .int .i64 0, .int .i64 0, .bool false, .int .i64 0, .int .i64 0, .float .f64 0, .bool false, .float .f64 0, .bool false, .int .i64 0, .bool false, .bool false, .bool false, .int .i64 0, .bool false] 30) 1 _ c1
  have f2 := cell_one w C (.cells #[.int .i64 0, .bool false, .int .i64 0, .int .i64 0, .int .i64 0, .bool false, .int .i64 0, .int .i64 0, .float .f64 0, .bool false, .float .f64 0, .bool false, .int .i64 0, .bool false, .bool false, .bool false, .int .i64 0, .bool false] 30) 2 _ c2
  have f3 := cell_one w C (.cells #[.int .i64 0, .bool false, .int .i64 0, .int .i64 0, .int .i64 0, .bool false, .int .i64 0, .int .i64 0, .float .f64 0, .bool false, .float .f64 0, .bool false, .int .i64 0, .bool false, .bool false, .bool false, .int .i64 0, .bool false] 30) 3 _ c3
  have f4 := cell_one w C (.cells #[.int .i64 0, .bool false, .int .i64 0, .int .i64 0, .int .i64 0, .bool false, .int .i64 0, .int .i64 0, .float .f64 0, .bool false, .float .f64 0, .bool false, .int .i64 0, .bool false, .bool false, .bool false, .int .i64 0, .bool false] 30) 4 _ c4
  have f5 := cell_one w C (.cells #[.int .i64 0, .bool false, .int .i64 0, .int .i64 0, .int .i64 0, .bool false, .int .i64 0, .int .i64 0, .float .f64 0, .bool false, .float .f64 0, .bool false, .int .i64 0, .bool false, .bool false, .bool false, .int .i64 0, .bool false] 30) 5 _ c5
  have f11 := cell_one w C (.cells #[.int .i64 0, .bool false, .int .i64 0, .int .i64 0, .int .i64 0, .bool false, .int .i64 0, .int .i64 0, .float .f64 0, .bool false, .float .f64 0, .bool false, .int .i64 0, .bool false, .bool false, .bool false, .int .i64 0, .bool false] 30) 11 _ c11
  clear c1 c2 c3 c4 c5 c11
  go_enter Try.func22, Try.ntmps22
  go_upto_if 13 with fail
  go_cut [3, 4, 5] (fun a b c wx => a = .int .i64 Ys ∧ b = .int .i64 Ms ∧ c = .int .i64 Ds ∧ wx = (w.alloc (.cells C 30)).alloc (.cells #[.int .i64 0, .bool false, .int .i64 0, .int .i64 0, .int .i64 0, .bool false, .int .i64 0, .int .i64 0, .float .f64 0, .bool false, .float .f64 0, .bool false, .int .i64 0, .bool false, .bool false, .bool false, .int .i64 0, .bool false] 30))
  case first =>
    rcases hst.out with ⟨rfl, rfl, rfl, rfl⟩ | ⟨rfl, rfl, rfl, rfl⟩
    · go_wp2_with fail
      go_meet
      case rel => exact ⟨rfl, rfl, rfl, rfl⟩
    · go_wp2_with fail
      go_meet
      case rel => exact ⟨rfl, rfl, rfl, rfl⟩
  case rest =>
    obtain ⟨rfl, rfl, rfl, rfl⟩ := hcut
    go_upto_region 10 with fail
    go_cut [29] (fun a wx => a = .bool true ∧ wx = (w.alloc (.cells C 30)).alloc (.cells #[.int .i64 0, .bool false, .int .i64 0, .int .i64 0, .int .i64 0, .bool false, .int .i64 0, .int .i64 0, .float .f64 0, .bool false, .float .f64 0, .bool false, .int .i64 0, .bool false, .bool false, .bool false, .int .i64 0, .bool false] 30))
    case first =>
      by_cases h1 : Ys < -4713
      · go_wp2_with fail
        go_meet
        case rel => exact ⟨rfl, rfl⟩
      · by_cases h2 : 9999 < Ys
        · go_wp2_with fail
          go_meet
          case rel => exact ⟨rfl, rfl⟩
        · obtain rfl : isNumber = true := by
            rcases HB.out with h | h | h
            · exact absurd h h1
            · exact absurd h h2
            · exact h
          go_wp2_with fail
          go_meet
          case rel => exact ⟨rfl, rfl⟩
    case rest =>
    obtain ⟨rfl, rfl⟩ := hcut
    clear f1 f2 f3 f4 f5 f11
    go_wp2_with ((with_reducible refine wpList_store_g ?_ 30 (.tmp 2) (.tmp 30) ?_ (w.heap.size + 1) ?_ (row 0 false 0 0 0 false 0 0 0 false 0 false 0 false false false 0 true) ?_ ?_ 30 _ (size30 0 false 0 0 0 false 0 0 0 false 0 false 0 false false false 0 true) ?_ (one_row 0 false 0 0 0 false 0 0 0 false 0 false 0 false false false 0 true) ?_); (exact rfl); (exact rfl); (simp); (exact rfl); (exact rfl); (exact rfl))
    refine bodyPost_ret (fn := Try.f22) (v := .agg (row 0 false 0 0 0 false 0 0 0 false 0 false 0 false false false 0 true)) ?_ ?_ ?_
    · refine results_cell rfl _ _ _ (w.heap.size + 1) (row 0 false 0 0 0 false 0 0 0 false 0 false 0 false false false 0 true) rfl ?_
      exact run_loadVar_row _ _ 30 30 _ (0, 0) _ (heap_at0 _ _ _ (by simp)) Try.underlying30 rfl (size30 0 false 0 0 0 false 0 0 0 false 0 false 0 false false false 0 true)
    · exact rfl
    · exact ⟨rfl, (ext_alloc w C 30).trans (ext_alloc _ _ _)⟩

end Go.Proofs.Qxb6604200a
