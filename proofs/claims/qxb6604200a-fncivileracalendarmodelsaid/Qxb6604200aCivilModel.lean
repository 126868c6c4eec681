/-
  zzCivilModel: its small ways.
-/
import Derived.Test.Qxb6604200aModelBase
namespace Go.Proofs.Qxb6604200a
open Go.RowKit
attribute [local go_sem] run_store_float

set_option maxHeartbeats 1000000 in
set_option maxRecDepth 10000 in
theorem civilModel_has (C : Array Value) (w : World) (SC : Hid ((Try.prog.info? 30).map (·.size) = some C.size)) (ZC : Hid (18 = C.size)) (OC : Hid (C.all (·.oneCell') = true)) (c5 : C[5]? = some (.bool true)) :
    Calls Try.prog 26 #[.agg C] w fun e w' => e = .returned (.agg C) ∧ Ext w w' := by
  have f5 := cell_one w C (.cells #[.int .i64 0, .bool false, .int .i64 0, .int .i64 0, .int .i64 0, .bool false, .int .i64 0, .int .i64 0, .float .f64 0, .bool false, .float .f64 0, .bool false, .int .i64 0, .bool false, .bool false, .bool false, .int .i64 0, .bool false] 30) 5 _ c5
  clear c5
  go_enter Try.func26, Try.ntmps26
  go_wp2_with (first | ((with_reducible refine wpList_load_two ?_ 30 (.tmp 1) ?_ ?_ 30 C _ Try.underlying30 rfl SC.out ?_); (exact rfl); (exact rfl); (exact rfl)) | ((with_reducible refine wpList_store_g ?_ 30 (.tmp 2) (.tmp 10) ?_ (w.heap.size + 1) ?_ C ?_ ?_ 30 _ SC.out ?_ OC.out ?_); (exact rfl); (exact rfl); (simp); (exact rfl); (exact rfl); (exact ZC.out)))
  refine bodyPost_ret (results_cell rfl _ _ _ (w.heap.size + 1) C rfl (run_loadVar_row _ _ 30 30 _ (0, 0) _ (heap_at0 _ _ _ (by simp)) Try.underlying30 rfl SC.out)) rfl ⟨rfl, (ext_alloc w C 30).trans (ext_alloc _ _ _)⟩

set_option maxHeartbeats 1000000 in
set_option maxRecDepth 10000 in
theorem civilModel_none (jd year month day hour minute zone overflow : Int) (second number : Nat) (hasClock isNumber utc loc subsec failed : Bool) (C : Array Value) (w : World) (hC : Hid (C = (row jd false year month day false hour minute second hasClock number isNumber zone utc loc subsec overflow failed))) (SC : Hid ((Try.prog.info? 30).map (·.size) = some C.size)) (ZC : Hid (18 = C.size)) (OC : Hid (C.all (·.oneCell') = true)) (c5 : C[5]? = some (.bool false)) (c1 : C[1]? = some (.bool false)) (R : Array Value) (hR : Hid (R = (row jd false 2000 1 1 true hour minute second hasClock number isNumber zone utc loc subsec overflow failed))) (SR : Hid ((Try.prog.info? 30).map (·.size) = some R.size)) (ZR : Hid (18 = R.size)) (OR : Hid (R.all (·.oneCell') = true)) :
    Calls Try.prog 26 #[.agg C] w fun e w' => e = .returned (.agg R) ∧ Ext w w' := by
  have f5 := cell_one w C (.cells #[.int .i64 0, .bool false, .int .i64 0, .int .i64 0, .int .i64 0, .bool false, .int .i64 0, .int .i64 0, .float .f64 0, .bool false, .float .f64 0, .bool false, .int .i64 0, .bool false, .bool false, .bool false, .int .i64 0, .bool false] 30) 5 _ c5
  go_enter Try.func26, Try.ntmps26
  go_upto_region 3 with fail
  go_cut [3] (fun a wx => ∃ Y : World, a = .pointer (some ⟨Y.heap.size, 0, none⟩) ∧ wx = Y.alloc (.cells #[.int .i64 jd, .bool false, .int .i64 year, .int .i64 month, .int .i64 day, .bool false, .int .i64 hour, .int .i64 minute, .float .f64 second, .bool hasClock, .float .f64 number, .bool isNumber, .int .i64 zone, .bool utc, .bool loc, .bool subsec, .int .i64 overflow, .bool failed] 30) ∧ Hid (∃ Zr : Array Value, 18 = Zr.size ∧ Y = (w.alloc (.cells C 30)).alloc (.cells Zr 30)))
  case first =>
    go_wp2_with (first | ((with_reducible refine wpList_load_two ?_ 30 (.tmp 1) ?_ ?_ 30 C _ Try.underlying30 rfl SC.out ?_); (exact rfl); (exact rfl); (exact rfl)) | ((with_reducible refine wpList_store_g ?_ 30 (.tmp 3) (.tmp 11) ?_ (w.heap.size + 1 + 1) ?_ C ?_ ?_ 30 _ SC.out ?_ OC.out ?_); (exact rfl); (exact rfl); (simp); (exact rfl); (exact rfl); (exact ZC.out)))
    go_meet
    case rel => exact ⟨(w.alloc (.cells C 30)).alloc (.cells #[.int .i64 0, .bool false, .int .i64 0, .int .i64 0, .int .i64 0, .bool false, .int .i64 0, .int .i64 0, .float .f64 0, .bool false, .float .f64 0, .bool false, .int .i64 0, .bool false, .bool false, .bool false, .int .i64 0, .bool false] 30), by simp, by rw [hC.out]; rfl, _, rfl, rfl⟩
  case rest =>
    obtain ⟨Y, rfl, rfl, hY⟩ := hcut
    have f1 : (Y.alloc (.cells #[.int .i64 jd, .bool false, .int .i64 year, .int .i64 month, .int .i64 day, .bool false, .int .i64 hour, .int .i64 minute, .float .f64 second, .bool hasClock, .float .f64 number, .bool isNumber, .int .i64 zone, .bool utc, .bool loc, .bool subsec, .int .i64 overflow, .bool failed] 30)).cell? ⟨w.heap.size, 1, none⟩ = some (.bool false) := by obtain ⟨Zr, _, e⟩ := hY.out; rw [e]; exact cell_two w C _ _ 1 _ c1
    clear f5 c5 c1
    go_upto_region 8 with fail
    go_cut [18] (fun a wx => wx = Y.alloc (.cells R 30))
    case first =>
      go_wp2_with fail
      go_meet
      case rel => rw [hR.out]; rfl
    case rest =>
    obtain rfl := hcut
    clear f1
    obtain ⟨Zr, zs, rfl⟩ := hY.out
    have ZS : Hid (18 = Zr.size) := zs
    clear zs hY
    go_wp2_with (first | ((with_reducible refine wpList_load_new ?_ 30 (.tmp 3) ?_ (w.heap.size + 1 + 1) ?_ ?_ 30 R _ Try.underlying30 rfl SR.out ?_); (exact rfl); (exact rfl); (simp); (simp only [World.size_alloc]); (exact rfl)) | ((with_reducible refine wpList_store_under ?_ 30 (.tmp 2) (.tmp 19) ?_ (w.heap.size + 1) ?_ R ?_ ?_ 30 _ SR.out ?_ OR.out ?_); (exact rfl); (exact rfl); (simp); (exact rfl); (exact rfl); (exact ZS.out.symm.trans ZR.out)))
    refine bodyPost_ret (fn := Try.f26) (v := .agg R) ?_ ?_ ?_
    · refine results_cell rfl _ _ _ (w.heap.size + 1) R rfl ?_
      exact run_loadVar_row _ _ 30 30 _ (0, 0) _ (heap_under0 (w.alloc (.cells C 30)) _ _ (w.heap.size + 1) (by simp)) Try.underlying30 rfl SR.out
    · exact rfl
    · exact ⟨rfl, ((ext_alloc w C 30).trans (ext_alloc _ _ _)).trans (ext_alloc _ _ _)⟩

set_option maxHeartbeats 1000000 in
set_option maxRecDepth 10000 in
theorem civilModel_bad (jd : Int) (C : Array Value) (w : World) (h : jd < 0 ∨ 464269060799999 < jd) (SC : Hid ((Try.prog.info? 30).map (·.size) = some C.size)) (ZC : Hid (18 = C.size)) (OC : Hid (C.all (·.oneCell') = true)) (c5 : C[5]? = some (.bool false)) (c1 : C[1]? = some (.bool true)) (c0 : C[0]? = some (.int .i64 jd)) :
    Calls Try.prog 26 #[.agg C] w fun e w' => e = .returned (.agg (row 0 false 0 0 0 false 0 0 0 false 0 false 0 false false false 0 true)) ∧ Ext w w' := by
  have HB : Hid (jd < 0 ∨ 464269060799999 < jd) := h
  clear h
  have f5 := cell_one w C (.cells #[.int .i64 0, .bool false, .int .i64 0, .int .i64 0, .int .i64 0, .bool false, .int .i64 0, .int .i64 0, .float .f64 0, .bool false, .float .f64 0, .bool false, .int .i64 0, .bool false, .bool false, .bool false, .int .i64 0, .bool false] 30) 5 _ c5
  go_enter Try.func26, Try.ntmps26
  go_upto_region 3 with fail
  go_cut [3] (fun a wx => ∃ Y : World, a = .pointer (some ⟨Y.heap.size, 0, none⟩) ∧ wx = Y.alloc (.cells C 30) ∧ Hid (∃ Zr : Array Value, 18 = Zr.size ∧ Y = (w.alloc (.cells C 30)).alloc (.cells Zr 30)))
  case first =>
    go_wp2_with (first | ((with_reducible refine wpList_load_two ?_ 30 (.tmp 1) ?_ ?_ 30 C _ Try.underlying30 rfl SC.out ?_); (exact rfl); (exact rfl); (exact rfl)) | ((with_reducible refine wpList_store_g ?_ 30 (.tmp 3) (.tmp 11) ?_ (w.heap.size + 1 + 1) ?_ C ?_ ?_ 30 _ SC.out ?_ OC.out ?_); (exact rfl); (exact rfl); (simp); (exact rfl); (exact rfl); (exact ZC.out)))
    go_meet
    case rel => exact ⟨(w.alloc (.cells C 30)).alloc (.cells #[.int .i64 0, .bool false, .int .i64 0, .int .i64 0, .int .i64 0, .bool false, .int .i64 0, .int .i64 0, .float .f64 0, .bool false, .float .f64 0, .bool false, .int .i64 0, .bool false, .bool false, .bool false, .int .i64 0, .bool false] 30), by simp, rfl, _, rfl, rfl⟩
  case rest =>
    obtain ⟨Y, rfl, rfl, hY⟩ := hcut
    have f1 : (Y.alloc (.cells C 30)).cell? ⟨w.heap.size, 1, none⟩ = some (.bool true) := by obtain ⟨Zr, _, e⟩ := hY.out; rw [e]; exact cell_two w C _ _ 1 _ c1
    have f0 : (Y.alloc (.cells C 30)).cell? ⟨w.heap.size, 0, none⟩ = some (.int .i64 jd) := by obtain ⟨Zr, _, e⟩ := hY.out; rw [e]; exact cell_two w C _ _ 0 _ c0
    clear f5 c5 c1 c0
    go_upto_region 10 with fail
    go_cut [27] (fun a wx => a = .bool true ∧ wx = Y.alloc (.cells C 30))
    case first =>
      by_cases h1 : jd < 0
      · go_wp2_with fail
        go_meet
        case rel => exact ⟨rfl, rfl⟩
      · have h2 : 464269060799999 < jd := by
          rcases HB.out with h | h
          · exact absurd h h1
          · exact h
        go_wp2_with fail
        go_meet
        case rel => exact ⟨rfl, rfl⟩
    case rest =>
    obtain ⟨rfl, rfl⟩ := hcut
    clear f0 f1
    obtain ⟨Zr, zs, rfl⟩ := hY.out
    have ZS : Hid (18 = Zr.size) := zs
    clear zs hY
    go_wp2_with (first | ((with_reducible refine wpList_load_new ?_ 30 (.tmp 3) ?_ (w.heap.size + 1 + 1) ?_ ?_ 30 (row 0 false 0 0 0 false 0 0 0 false 0 false 0 false false false 0 true) _ Try.underlying30 rfl (size30 0 false 0 0 0 false 0 0 0 false 0 false 0 false false false 0 true) ?_); (exact rfl); (exact rfl); (simp); (simp only [World.size_alloc]); (exact rfl)) | ((with_reducible refine wpList_store_under ?_ 30 (.tmp 2) (.tmp 28) ?_ (w.heap.size + 1) ?_ (row 0 false 0 0 0 false 0 0 0 false 0 false 0 false false false 0 true) ?_ ?_ 30 _ (size30 0 false 0 0 0 false 0 0 0 false 0 false 0 false false false 0 true) ?_ (one_row 0 false 0 0 0 false 0 0 0 false 0 false 0 false false false 0 true) ?_); (exact rfl); (exact rfl); (simp); (exact rfl); (exact rfl); (exact ZS.out.symm)))
    refine bodyPost_ret (fn := Try.f26) (v := .agg (row 0 false 0 0 0 false 0 0 0 false 0 false 0 false false false 0 true)) ?_ ?_ ?_
    · refine results_cell rfl _ _ _ (w.heap.size + 1) (row 0 false 0 0 0 false 0 0 0 false 0 false 0 false false false 0 true) rfl ?_
      exact run_loadVar_row _ _ 30 30 _ (0, 0) _ (heap_under0 (w.alloc (.cells C 30)) _ _ (w.heap.size + 1) (by simp)) Try.underlying30 rfl (size30 0 false 0 0 0 false 0 0 0 false 0 false 0 false false false 0 true)
    · exact rfl
    · exact ⟨rfl, ((ext_alloc w C 30).trans (ext_alloc _ _ _)).trans (ext_alloc _ _ _)⟩

end Go.Proofs.Qxb6604200a
