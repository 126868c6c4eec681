/-
  zzJulianModel where no time of day is given.
-/
import Derived.Test.Qxb6604200aModelBase
import Derived.Test.Qxb6604200aDaysFrom
namespace Go.Proofs.Qxb6604200a
open Go.RowKit
attribute [local go_sem] run_store_float

set_option maxHeartbeats 1000000 in
set_option maxRecDepth 10000 in
theorem julianModel_plain (jd year month day hour minute zone overflow : Int) (second number : Nat) (hasDate utc loc subsec failed : Bool) (C : Array Value) (w : World) (Ys Ms Ds N Dy B : Int) (hst : Hid ((hasDate = true ∧ Ys = year ∧ Ms = month ∧ Ds = day) ∨ (hasDate = false ∧ Ys = 2000 ∧ Ms = 1 ∧ Ds = 1))) (y1 : -4713 ≤ Ys) (y2 : Ys ≤ 9999) (d1 : -16777216 ≤ Ds) (d2 : Ds ≤ 16777216) (n1 : -4000000 ≤ N) (n2 : N ≤ 4000000) (hDy : Hid (N + Ds - 1 = Dy)) (e1 : -30000000 ≤ Dy) (e2 : Dy ≤ 30000000) (hB : Hid (Dy * 86400000 + 210866760000000 = B))
    (c33 : Hid (∀ w, Calls Try.prog 33 #[.int .i64 Ys, .int .i64 Ms] w fun e w' => e = .returned (.int .i64 N) ∧ w = w'))  (hC : Hid (C = (row jd false year month day hasDate hour minute second false number false zone utc loc subsec overflow failed))) (SC : Hid ((Try.prog.info? 30).map (·.size) = some C.size)) (ZC : Hid (18 = C.size)) (OC : Hid (C.all (·.oneCell') = true)) (c1 : C[1]? = some (.bool false)) (c2 : C[2]? = some (.int .i64 year)) (c3 : C[3]? = some (.int .i64 month)) (c4 : C[4]? = some (.int .i64 day)) (c5 : C[5]? = some (.bool hasDate)) (c11 : C[11]? = some (.bool false)) (c9 : C[9]? = some (.bool false)) (R : Array Value) (hR : Hid (R = (row B true year month day hasDate hour minute second false number false zone utc loc subsec overflow failed))) (SR : Hid ((Try.prog.info? 30).map (·.size) = some R.size)) (ZR : Hid (18 = R.size)) (OR : Hid (R.all (·.oneCell') = true)) :
    Calls Try.prog 22 #[.agg C] w fun e w' => e = .returned (.agg R) ∧ Ext w w' := by
  have f1 := cell_one w C (.cells #[.int .i64 0, .bool false, .int .i64 0, .int .i64 0, .int .i64 0, .bool false, .int .i64 0, .int .i64 0, .float .f64 0, .bool false, .float .f64 0, .bool false, .int .i64 0, .bool false, .bool false, .bool false, .int .i64 0, .bool false] 30) 1 _ c1
  have f2 := cell_one w C (.cells #[.int .i64 0, .bool false, .int .i64 0, .int .i64 0, .int .i64 0, .bool false, .int .i64 0, .int .i64 0, .float .f64 0, .bool false, .float .f64 0, .bool false, .int .i64 0, .bool false, .bool false, .bool false, .int .i64 0, .bool false] 30) 2 _ c2
  have f3 := cell_one w C (.cells #[.int .i64 0, .bool false, .int .i64 0, .int .i64 0, .int .i64 0, .bool false, .int .i64 0, .int .i64 0, .float .f64 0, .bool false, .float .f64 0, .bool false, .int .i64 0, .bool false, .bool false, .bool false, .int .i64 0, .bool false] 30) 3 _ c3
  have f4 := cell_one w C (.cells #[.int .i64 0, .bool false, .int .i64 0, .int .i64 0, .int .i64 0, .bool false, .int .i64 0, .int .i64 0, .float .f64 0, .bool false, .float .f64 0, .bool false, .int .i64 0, .bool false, .bool false, .bool false, .int .i64 0, .bool false] 30) 4 _ c4
  have f5 := cell_one w C (.cells #[.int .i64 0, .bool false, .int .i64 0, .int .i64 0, .int .i64 0, .bool false, .int .i64 0, .int .i64 0, .float .f64 0, .bool false, .float .f64 0, .bool false, .int .i64 0, .bool false, .bool false, .bool false, .int .i64 0, .bool false] 30) 5 _ c5
  have f11 := cell_one w C (.cells #[.int .i64 0, .bool false, .int .i64 0, .int .i64 0, .int .i64 0, .bool false, .int .i64 0, .int .i64 0, .float .f64 0, .bool false, .float .f64 0, .bool false, .int .i64 0, .bool false, .bool false, .bool false, .int .i64 0, .bool false] 30) 11 _ c11
  go_enter Try.func22, Try.ntmps22
  go_upto_if 13 with fail
  go_cut [3, 4, 5] (fun a b c wx => a = .int .i64 Ys ∧ b = .int .i64 Ms ∧ c = .int .i64 Ds ∧ wx = (w.alloc (.cells C 30)).alloc (.cells #[.int .i64 0, .bool false, .int .i64 0, .int .i64 0, .int .i64 0, .bool false, .int .i64 0, .int .i64 0, .float .f64 0, .bool false, .float .f64 0, .bool false, .int .i64 0, .bool false, .bool false, .bool false, .int .i64 0, .bool false] 30))
  case first =>
    rcases hst.out with ⟨rfl, rfl, rfl, rfl⟩ | ⟨rfl, rfl, rfl, rfl⟩
    · go_wp2_with fail
      go_meet
      case rel => exact ⟨rfl, rfl, rfl, rfl⟩
    · go_wp2_with fail
      go_meet
      case rel => exact ⟨rfl, rfl, rfl, rfl⟩
  case rest =>
    obtain ⟨rfl, rfl, rfl, rfl⟩ := hcut
    go_upto_region 12 with fail
    go_cut [6] (fun a wx => a = .int .i64 Dy ∧ wx = (w.alloc (.cells C 30)).alloc (.cells #[.int .i64 0, .bool false, .int .i64 0, .int .i64 0, .int .i64 0, .bool false, .int .i64 0, .int .i64 0, .float .f64 0, .bool false, .float .f64 0, .bool false, .int .i64 0, .bool false, .bool false, .bool false, .int .i64 0, .bool false] 30))
    case first =>
      go_wp2_with (go_at_call 33; refine (c33.out _).mono ?_; rintro e w' ⟨rfl, rfl⟩)
      go_meet
      case rel => exact ⟨val64 hDy.out, rfl⟩
    case rest =>
    obtain ⟨rfl, rfl⟩ := hcut
    clear f1 f2 f3 f4 f5 f11
    go_upto_region 13 with fail
    go_cut [7] (fun a wx => a = .int .i64 B ∧ wx = (w.alloc (.cells C 30)).alloc (.cells #[.int .i64 0, .bool false, .int .i64 0, .int .i64 0, .int .i64 0, .bool false, .int .i64 0, .int .i64 0, .float .f64 0, .bool false, .float .f64 0, .bool false, .int .i64 0, .bool false, .bool false, .bool false, .int .i64 0, .bool false] 30))
    case first =>
      go_wp2_with fail
      go_meet
      case rel => exact ⟨val64 hB.out, rfl⟩
    case rest =>
    obtain ⟨rfl, rfl⟩ := hcut
    go_upto_region 14 with fail
    go_cut [8] (fun a wx => ∃ Y : World, a = .pointer (some ⟨Y.heap.size, 0, none⟩) ∧ wx = Y.alloc (.cells #[.int .i64 jd, .bool false, .int .i64 year, .int .i64 month, .int .i64 day, .bool hasDate, .int .i64 hour, .int .i64 minute, .float .f64 second, .bool false, .float .f64 number, .bool false, .int .i64 zone, .bool utc, .bool loc, .bool subsec, .int .i64 overflow, .bool failed] 30) ∧ Hid (∃ Zr : Array Value, 18 = Zr.size ∧ Y = (w.alloc (.cells C 30)).alloc (.cells Zr 30)))
    case first =>
      go_wp2_with (first | ((with_reducible refine wpList_load_two ?_ 30 (.tmp 1) ?_ ?_ 30 C _ Try.underlying30 rfl SC.out ?_); (exact rfl); (exact rfl); (exact rfl)) | ((with_reducible refine wpList_store_g ?_ 30 (.tmp 8) (.tmp 40) ?_ (w.heap.size + 1 + 1) ?_ C ?_ ?_ 30 _ SC.out ?_ OC.out ?_); (exact rfl); (exact rfl); (simp); (exact rfl); (exact rfl); (exact ZC.out)))
      go_meet
      case rel => exact ⟨(w.alloc (.cells C 30)).alloc (.cells #[.int .i64 0, .bool false, .int .i64 0, .int .i64 0, .int .i64 0, .bool false, .int .i64 0, .int .i64 0, .float .f64 0, .bool false, .float .f64 0, .bool false, .int .i64 0, .bool false, .bool false, .bool false, .int .i64 0, .bool false] 30), by simp, by rw [hC.out]; rfl, _, rfl, rfl⟩
    case rest =>
    obtain ⟨Y, rfl, rfl, hY⟩ := hcut
    have k9 : (Y.alloc (.cells #[.int .i64 jd, .bool true, .int .i64 year, .int .i64 month, .int .i64 day, .bool hasDate, .int .i64 hour, .int .i64 minute, .float .f64 second, .bool false, .float .f64 number, .bool false, .int .i64 zone, .bool utc, .bool loc, .bool subsec, .int .i64 overflow, .bool failed] 30)).cell? ⟨w.heap.size, 9, none⟩ = some (.bool false) := by obtain ⟨Zr, _, e⟩ := hY.out; rw [e]; exact cell_two w C _ _ 9 _ c9
    clear c1 c2 c3 c4 c5 c11 c9
    go_upto_region 25 with fail
    go_cut [73] (fun a wx => wx = Y.alloc (.cells R 30))
    case first =>
      go_wp2_with fail
      go_meet
      case rel => rw [hR.out]; rfl
    case rest =>
    obtain rfl := hcut
    clear k9
    obtain ⟨Zr, zs, rfl⟩ := hY.out
    have ZS : Hid (18 = Zr.size) := zs
    clear zs hY
    go_wp2_with (first | ((with_reducible refine wpList_load_new ?_ 30 (.tmp 8) ?_ (w.heap.size + 1 + 1) ?_ ?_ 30 R _ Try.underlying30 rfl SR.out ?_); (exact rfl); (exact rfl); (simp); (simp only [World.size_alloc]); (exact rfl)) | ((with_reducible refine wpList_store_under ?_ 30 (.tmp 2) (.tmp 74) ?_ (w.heap.size + 1) ?_ R ?_ ?_ 30 _ SR.out ?_ OR.out ?_); (exact rfl); (exact rfl); (simp); (exact rfl); (exact rfl); (exact ZS.out.symm.trans ZR.out)))
    refine bodyPost_ret (fn := Try.f22) (v := .agg R) ?_ ?_ ?_
    · refine results_cell rfl _ _ _ (w.heap.size + 1) R rfl ?_
      exact run_loadVar_row _ _ 30 30 _ (0, 0) _ (heap_under0 (w.alloc (.cells C 30)) _ _ (w.heap.size + 1) (by simp)) Try.underlying30 rfl SR.out
    · exact rfl
    · exact ⟨rfl, ((ext_alloc w C 30).trans (ext_alloc _ _ _)).trans (ext_alloc _ _ _)⟩

end Go.Proofs.Qxb6604200a
