/-
  zzCivilModel: its main way.
-/
import Derived.Test.Qxb6604200aModelBase
import Derived.Test.Qxb6604200aFromDays
namespace Go.Proofs.Qxb6604200a
open Go.RowKit
attribute [local go_sem] run_store_float

set_option maxHeartbeats 1000000 in
set_option maxRecDepth 10000 in
theorem civilModel_main (jd year month day hour minute zone overflow : Int) (second number : Nat) (hasClock isNumber utc loc subsec failed : Bool) (C : Array Value) (w : World) (n y m d wm wd : Int) (j1 : 0 ≤ jd) (j2 : jd ≤ 464269060799999) (hn : Hid ((jd + 43200000) / 86400000 - 2440588 = n - 719468))
    (c36 : Hid (∀ w, Calls Try.prog 36 #[.int .i64 (n - 719468)] w fun e w' => e = .returned (.tuple #[.int .i64 y, .int .i64 m, .int .i64 d]) ∧ w = w'))
    (hw : Hid ((Cal.March y m d ∧ wm = 2 ∧ wd = 29) ∨ (¬ Cal.March y m d ∧ wm = m ∧ wd = d)))
    (hC : Hid (C = (row jd true year month day false hour minute second hasClock number isNumber zone utc loc subsec overflow failed))) (SC : Hid ((Try.prog.info? 30).map (·.size) = some C.size)) (ZC : Hid (18 = C.size)) (OC : Hid (C.all (·.oneCell') = true)) (c5 : C[5]? = some (.bool false)) (c1 : C[1]? = some (.bool true)) (c0 : C[0]? = some (.int .i64 jd)) (R : Array Value) (hR : Hid (R = (row jd true y wm wd true hour minute second hasClock number isNumber zone utc loc subsec overflow failed))) (SR : Hid ((Try.prog.info? 30).map (·.size) = some R.size)) (ZR : Hid (18 = R.size)) (OR : Hid (R.all (·.oneCell') = true)) :
    Calls Try.prog 26 #[.agg C] w fun e w' => e = .returned (.agg R) ∧ Ext w w' := by
  have f5 := cell_one w C (.cells #[.int .i64 0, .bool false, .int .i64 0, .int .i64 0, .int .i64 0, .bool false, .int .i64 0, .int .i64 0, .float .f64 0, .bool false, .float .f64 0, .bool false, .int .i64 0, .bool false, .bool false, .bool false, .int .i64 0, .bool false] 30) 5 _ c5
  go_enter Try.func26, Try.ntmps26
  go_upto_region 3 with fail
  go_cut [3] (fun a wx => ∃ Y : World, a = .pointer (some ⟨Y.heap.size, 0, none⟩) ∧ wx = Y.alloc (.cells C 30) ∧ Hid (∃ Zr : Array Value, 18 = Zr.size ∧ Y = (w.alloc (.cells C 30)).alloc (.cells Zr 30)))
  case first =>
    go_wp2_with (first | ((with_reducible refine wpList_load_two ?_ 30 (.tmp 1) ?_ ?_ 30 C _ Try.underlying30 rfl SC.out ?_); (exact rfl); (exact rfl); (exact rfl)) | ((with_reducible refine wpList_store_g ?_ 30 (.tmp 3) (.tmp 11) ?_ (w.heap.size + 1 + 1) ?_ C ?_ ?_ 30 _ SC.out ?_ OC.out ?_); (exact rfl); (exact rfl); (simp); (exact rfl); (exact rfl); (exact ZC.out)))
    go_meet
    case rel => exact ⟨(w.alloc (.cells C 30)).alloc (.cells #[.int .i64 0, .bool false, .int .i64 0, .int .i64 0, .int .i64 0, .bool false, .int .i64 0, .int .i64 0, .float .f64 0, .bool false, .float .f64 0, .bool false, .int .i64 0, .bool false, .bool false, .bool false, .int .i64 0, .bool false] 30), by simp, rfl, _, rfl, rfl⟩
  case rest =>
    obtain ⟨Y, rfl, rfl, hY⟩ := hcut
    have f1 : (Y.alloc (.cells C 30)).cell? ⟨w.heap.size, 1, none⟩ = some (.bool true) := by obtain ⟨Zr, _, e⟩ := hY.out; rw [e]; exact cell_two w C _ _ 1 _ c1
    have f0 : (Y.alloc (.cells C 30)).cell? ⟨w.heap.size, 0, none⟩ = some (.int .i64 jd) := by obtain ⟨Zr, _, e⟩ := hY.out; rw [e]; exact cell_two w C _ _ 0 _ c0
    clear f5 c5 c1 c0
    go_upto_region 12 with fail
    go_cut [4] (fun a wx => a = .int .i64 (n + 1721120) ∧ wx = Y.alloc (.cells C 30))
    case first =>
      go_wp2_with fail
      go_meet
      case rel => exact ⟨val64 (by have := hn.out; omega), rfl⟩
    case rest =>
    obtain ⟨rfl, rfl⟩ := hcut
    clear f0 f1
    have n1 : -1722000 ≤ n := by have := hn.out; omega
    have n2 : n ≤ 4000000 := by have := hn.out; omega
    go_upto_region 13 with fail
    go_cut [5, 6, 7] (fun a b c wx => a = .int .i64 y ∧ b = .int .i64 m ∧ c = .int .i64 d ∧ wx = Y.alloc (.cells C 30))
    case first =>
      have c36' : Hid (∀ k w, k = n - 719468 → Calls Try.prog 36 #[.int .i64 k] w fun e w' => e = .returned (.tuple #[.int .i64 y, .int .i64 m, .int .i64 d]) ∧ w = w') := fun k w hk => by rw [hk]; exact c36.out w
      go_wp2_with (go_at_call 36; refine (c36'.out _ _ ?_).mono ?_; (omega); rintro e w' ⟨rfl, rfl⟩)
      go_meet
      case rel => exact ⟨rfl, rfl, rfl, rfl⟩
    case rest =>
    obtain ⟨rfl, rfl, rfl, rfl⟩ := hcut
    have hw' : Hid (∃ B : Bool, (∀ w, Calls Try.prog 25 #[.int .i64 y, .int .i64 m, .int .i64 d] w fun e w' => e = .returned (.bool B) ∧ w = w') ∧ ((B = true ∧ wm = 2 ∧ wd = 29) ∨ (B = false ∧ wm = m ∧ wd = d))) := by
      rcases hw.out with ⟨⟨rfl, rfl, h300, hm⟩, h2, h29⟩ | ⟨hM, h2, h29⟩
      · exact ⟨true, fun w => feb29_yes y w h300 (by rw [hm]; rfl), Or.inl ⟨rfl, h2, h29⟩⟩
      · exact ⟨false, fun w => feb29_no y m d w hM, Or.inr ⟨rfl, h2, h29⟩⟩
    obtain ⟨B, c25', hB'⟩ := hw'.out
    have c25 : Hid (∀ w, Calls Try.prog 25 #[.int .i64 y, .int .i64 m, .int .i64 d] w fun e w' => e = .returned (.bool B) ∧ w = w') := c25'
    have hB : Hid ((B = true ∧ wm = 2 ∧ wd = 29) ∨ (B = false ∧ wm = m ∧ wd = d)) := hB'
    clear c25' hB' hw' hw
    go_upto_region 14 with fail
    go_cut [43] (fun a wx => a = .bool B ∧ wx = Y.alloc (.cells C 30))
    case first =>
      go_wp2_with (go_at_call 25; refine (c25.out _).mono ?_; rintro e w' ⟨rfl, rfl⟩)
      go_meet
      case rel => exact ⟨rfl, rfl⟩
    case rest =>
    obtain ⟨rfl, rfl⟩ := hcut
    go_upto_if 43 with fail
    go_cut [6, 7] (fun a b wx => a = .int .i64 wm ∧ b = .int .i64 wd ∧ wx = Y.alloc (.cells #[.int .i64 jd, .bool true, .int .i64 year, .int .i64 month, .int .i64 day, .bool false, .int .i64 hour, .int .i64 minute, .float .f64 second, .bool hasClock, .float .f64 number, .bool isNumber, .int .i64 zone, .bool utc, .bool loc, .bool subsec, .int .i64 overflow, .bool failed] 30))
    case first =>
      rcases hB.out with ⟨rfl, rfl, rfl⟩ | ⟨rfl, rfl, rfl⟩
      · go_wp2_with fail
        go_meet
        case rel => exact ⟨rfl, rfl, by rw [hC.out]; rfl⟩
      · go_wp2_with fail
        go_meet
        case rel => exact ⟨rfl, rfl, by rw [hC.out]; rfl⟩
    case rest =>
    obtain ⟨rfl, rfl, rfl⟩ := hcut
    go_upto_region 20 with fail
    go_cut [50] (fun a wx => wx = Y.alloc (.cells R 30))
    case first =>
      go_wp2_with fail
      go_meet
      case rel => rw [hR.out]; rfl
    case rest =>
    obtain rfl := hcut
    obtain ⟨Zr, zs, rfl⟩ := hY.out
    have ZS : Hid (18 = Zr.size) := zs
    clear zs hY
    go_wp2_with (first | ((with_reducible refine wpList_load_new ?_ 30 (.tmp 3) ?_ (w.heap.size + 1 + 1) ?_ ?_ 30 R _ Try.underlying30 rfl SR.out ?_); (exact rfl); (exact rfl); (simp); (simp only [World.size_alloc]); (exact rfl)) | ((with_reducible refine wpList_store_under ?_ 30 (.tmp 2) (.tmp 51) ?_ (w.heap.size + 1) ?_ R ?_ ?_ 30 _ SR.out ?_ OR.out ?_); (exact rfl); (exact rfl); (simp); (exact rfl); (exact rfl); (exact ZS.out.symm.trans ZR.out)))
    refine bodyPost_ret (fn := Try.f26) (v := .agg R) ?_ ?_ ?_
    · refine results_cell rfl _ _ _ (w.heap.size + 1) R rfl ?_
      exact run_loadVar_row _ _ 30 30 _ (0, 0) _ (heap_under0 (w.alloc (.cells C 30)) _ _ (w.heap.size + 1) (by simp)) Try.underlying30 rfl SR.out
    · exact rfl
    · exact ⟨rfl, ((ext_alloc w C 30).trans (ext_alloc _ _ _)).trans (ext_alloc _ _ _)⟩

end Go.Proofs.Qxb6604200a
