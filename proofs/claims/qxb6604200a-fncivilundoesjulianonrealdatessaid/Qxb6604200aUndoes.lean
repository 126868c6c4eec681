/-
  The walk of FnCivilUndoesJulianOnRealDates.
-/
import Derived.Test.Qxb6604200aOrdered
import Derived.Test.Qxb6604200aJulianCall
import Derived.Test.Qxb6604200aSmallFns
namespace Go.Proofs.Qxb6604200a
open Go.RowKit

set_option maxHeartbeats 1000000 in
set_option maxRecDepth 10000 in
theorem undoes_skip (y m d : Int) (w : World) (h : m < 1 ∨ 12 < m ∨ d < 1 ∨ Cal.daysIn y m < d) :
    Calls Try.prog 7 #[.int .i64 y, .int .i64 m, .int .i64 d] w fun e w' => e = .returned (.bool true) ∧ Ext w w' := by
  have HB : Hid (m < 1 ∨ 12 < m ∨ d < 1 ∨ Cal.daysIn y m < d) := h
  have c0 : Hid (∀ w, Calls Try.prog 23 #[.int .i64 y, .int .i64 m] w fun e w' => e = .returned (.int .i64 (Cal.daysIn y m)) ∧ w = w') := daysIn_any y m
  clear h
  by_cases h1 : m < 1
  · go_enter Try.func7, Try.ntmps7
    go_wp2
    go_ret
    exact ⟨rfl, Ext.refl w⟩
  · by_cases h2 : 12 < m
    · go_enter Try.func7, Try.ntmps7
      go_wp2
      go_ret
      exact ⟨rfl, Ext.refl w⟩
    · by_cases h3 : d < 1
      · go_enter Try.func7, Try.ntmps7
        go_wp2
        go_ret
        exact ⟨rfl, Ext.refl w⟩
      · have h4 : Cal.daysIn y m < d := by
          rcases HB.out with h | h | h | h
          · exact absurd h h1
          · exact absurd h h2
          · exact absurd h h3
          · exact h
        clear HB
        generalize Cal.daysIn y m = N at *
        go_enter Try.func7, Try.ntmps7
        go_wp2_with (go_at_call 23; refine (c0.out _).mono ?_; rintro e w' ⟨rfl, rfl⟩)
        go_ret
        exact ⟨rfl, Ext.refl w⟩

set_option maxHeartbeats 1000000 in
set_option maxRecDepth 10000 in
theorem undoes_bad (y m d N : Int) (w : World) (m1 : 1 ≤ m) (m12 : m ≤ 12) (d1 : 1 ≤ d) (dN : d ≤ N) (h : y < -4713 ∨ 9999 < y) (D1 : Array Value)
    (c0 : Hid (∀ w, Calls Try.prog 23 #[.int .i64 y, .int .i64 m] w fun e w' => e = .returned (.int .i64 N) ∧ w = w'))
    (c1 : Hid (∀ w, Calls Try.prog 20 #[.agg #[.int .i64 0, .bool false, .int .i64 y, .int .i64 m, .int .i64 d, .bool true, .int .i64 0, .int .i64 0, .float .f64 0, .bool false, .float .f64 0, .bool false, .int .i64 0, .bool false, .bool false, .bool false, .int .i64 0, .bool false]] w fun e w' => e = .returned (.agg D1) ∧ Ext w w'))
    (S1 : Hid ((Try.prog.info? 32).map (·.size) = some D1.size)) (Z1 : Hid (18 = D1.size)) (O1 : Hid (D1.all (·.oneCell') = true))
    (F : Hid (D1[17]? = some (.bool true) ∧ D1[5]? = some (.bool false) ∧ D1[1]? = some (.bool false))) :
    Calls Try.prog 7 #[.int .i64 y, .int .i64 m, .int .i64 d] w fun e w' => e = .returned (.bool true) ∧ Ext w w' := by
  have HB : Hid (y < -4713 ∨ 9999 < y) := h
  clear h
  go_enter Try.func7, Try.ntmps7
  go_upto_region 3 with (go_at_call 23; refine (c0.out _).mono ?_; rintro e w' ⟨rfl, rfl⟩)
  go_cut [7] (fun a wx => ∃ b, a = .pointer (some ⟨b, 0, none⟩) ∧ Hid (Ext w wx ∧ b < wx.heap.size ∧ wx.heap[b]? = some (.cells D1 32)))
  case first =>
    go_wp2_with (first | (go_at_call 20; refine (c1.out _).mono ?_; rintro e w' ⟨rfl, hx⟩) | ((with_reducible refine wpList_store_new ?_ 32 (.tmp 7) (.tmp 32) ?_ D1 ?_ ?_ 32 _ S1.out ?_ O1.out ?_); (exact rfl); (exact rfl); (exact rfl); (exact rfl); (exact Z1.out)))
    go_meet
    case rel => exact ⟨_, rfl, hx.trans (ext_alloc _ _ _), by simp, heap_new _ _⟩
  case rest =>
      obtain ⟨p, rfl, hf⟩ := hcut
      obtain ⟨g0, _, g1⟩ := hf.out
      have GX : Hid (Ext w wc) := g0
      have e1 := cell_heap g1 17 _ F.out.1
      have e2 := cell_heap g1 5 _ F.out.2.1
      have e3 := cell_heap g1 1 _ F.out.2.2
      clear hf g0 g1
      by_cases h1 : y < -4713
      · go_wp2
        go_ret
        exact ⟨rfl, GX.out⟩
      · have h2 : 9999 < y := by
          rcases HB.out with h | h
          · exact absurd h h1
          · exact h
        go_wp2
        go_ret
        exact ⟨rfl, GX.out⟩

set_option maxHeartbeats 1000000 in
set_option maxRecDepth 10000 in
theorem undoes_early (m d N JD : Int) (w : World) (m1 : 1 ≤ m) (m12 : m ≤ 12) (d1 : 1 ≤ d) (dN : d ≤ N) (h : m < 11 ∨ m = 11 ∧ d ≤ 24) (D1 D2 : Array Value)
    (c0 : Hid (∀ w, Calls Try.prog 23 #[.int .i64 (-4713), .int .i64 m] w fun e w' => e = .returned (.int .i64 N) ∧ w = w'))
    (c1 : Hid (∀ w, Calls Try.prog 20 #[.agg #[.int .i64 0, .bool false, .int .i64 (-4713), .int .i64 m, .int .i64 d, .bool true, .int .i64 0, .int .i64 0, .float .f64 0, .bool false, .float .f64 0, .bool false, .int .i64 0, .bool false, .bool false, .bool false, .int .i64 0, .bool false]] w fun e w' => e = .returned (.agg D1) ∧ Ext w w'))
    (S1 : Hid ((Try.prog.info? 32).map (·.size) = some D1.size)) (Z1 : Hid (18 = D1.size)) (O1 : Hid (D1.all (·.oneCell') = true))
    (c2 : Hid (∀ w, Calls Try.prog 24 #[.agg #[.int .i64 JD, .bool true, .int .i64 0, .int .i64 0, .int .i64 0, .bool false, .int .i64 0, .int .i64 0, .float .f64 0, .bool false, .float .f64 0, .bool false, .int .i64 0, .bool false, .bool false, .bool false, .int .i64 0, .bool false]] w fun e w' => e = .returned (.agg D2) ∧ Ext w w'))
    (S2 : Hid ((Try.prog.info? 32).map (·.size) = some D2.size)) (Z2 : Hid (18 = D2.size)) (O2 : Hid (D2.all (·.oneCell') = true))
    (F : Hid (D1[17]? = some (.bool false) ∧ D1[1]? = some (.bool true) ∧ D1[0]? = some (.int .i64 JD)))
    (G : Hid (D2[17]? = some (.bool true) ∧ D2[5]? = some (.bool false) ∧ D2[1]? = some (.bool false))) :
    Calls Try.prog 7 #[.int .i64 (-4713), .int .i64 m, .int .i64 d] w fun e w' => e = .returned (.bool true) ∧ Ext w w' := by
  have HB : Hid (m < 11 ∨ m = 11 ∧ d ≤ 24) := h
  clear h
  go_enter Try.func7, Try.ntmps7
  go_upto_region 3 with (go_at_call 23; refine (c0.out _).mono ?_; rintro e w' ⟨rfl, rfl⟩)
  go_cut [7] (fun a wx => ∃ b, a = .pointer (some ⟨b, 0, none⟩) ∧ Hid (Ext w wx ∧ b < wx.heap.size ∧ wx.heap[b]? = some (.cells D1 32)))
  case first =>
    go_wp2_with (first | (go_at_call 20; refine (c1.out _).mono ?_; rintro e w' ⟨rfl, hx⟩) | ((with_reducible refine wpList_store_new ?_ 32 (.tmp 7) (.tmp 32) ?_ D1 ?_ ?_ 32 _ S1.out ?_ O1.out ?_); (exact rfl); (exact rfl); (exact rfl); (exact rfl); (exact Z1.out)))
    go_meet
    case rel => exact ⟨_, rfl, hx.trans (ext_alloc _ _ _), by simp, heap_new _ _⟩
  case rest =>
      obtain ⟨p, rfl, hf⟩ := hcut
      obtain ⟨g0, g2, g1⟩ := hf.out
      have GX : Hid (Ext w wc ∧ p < wc.heap.size ∧ wc.heap[p]? = some (.cells D1 32)) := ⟨g0, g2, g1⟩
      have e1 := cell_heap g1 17 _ F.out.1
      have e2 := cell_heap g1 1 _ F.out.2.1
      have e3 := cell_heap g1 0 _ F.out.2.2
      clear hf g0 g1 g2
      go_upto_region 8 with fail
      go_cut [8] (fun a wx => ∃ b, a = .pointer (some ⟨b, 0, none⟩) ∧ Hid (Ext w wx ∧ wx.heap[p]? = some (.cells D1 32) ∧ wx.heap[b]? = some (.cells D2 32)))
      case first =>
        go_wp2_with (first | (go_at_call 24; refine (c2.out _).mono ?_; rintro e w' ⟨rfl, hx⟩) | ((with_reducible refine wpList_store_new ?_ 32 (.tmp 8) (.tmp 61) ?_ D2 ?_ ?_ 32 _ S2.out ?_ O2.out ?_); (exact rfl); (exact rfl); (exact rfl); (exact rfl); (exact Z2.out)))
        go_meet
        case rel =>
          have hx2 := hx.trans (ext_alloc _ D2 32)
          exact ⟨_, rfl, GX.out.1.trans hx2, (hx2.heap p GX.out.2.1).trans GX.out.2.2, heap_new _ _⟩
      case rest =>
        obtain ⟨q, rfl, hf⟩ := hcut
        clear e1 e2 e3 GX
        obtain ⟨g0, g1, g2⟩ := hf.out
        have GY : Hid (Ext w wc) := g0
        have e1 := cell_heap g2 17 _ G.out.1
        have e2 := cell_heap g2 5 _ G.out.2.1
        have e3 := cell_heap g2 1 _ G.out.2.2
        clear hf g0 g1 g2
        by_cases h1 : m < 11
        · go_wp2
          go_ret
          exact ⟨rfl, GY.out⟩
        · obtain ⟨rfl, h2⟩ : m = 11 ∧ d ≤ 24 := by
            rcases HB.out with h | h
            · exact absurd h h1
            · exact h
          go_wp2
          go_ret
          exact ⟨rfl, GY.out⟩

set_option maxHeartbeats 1000000 in
set_option maxRecDepth 10000 in
theorem undoes_core (y m d wm wd N JD : Int) (w : World) (y1 : -4713 ≤ y) (y2 : y ≤ 9999) (m1 : 1 ≤ m) (m12 : m ≤ 12) (d1 : 1 ≤ d) (dN : d ≤ N) (h : Hid (¬ (y = -4713 ∧ (m < 11 ∨ m = 11 ∧ d ≤ 24)))) (D1 D2 : Array Value)
    (hw : Hid ((Cal.March y m d ∧ wm = 2 ∧ wd = 29) ∨ (¬ Cal.March y m d ∧ wm = m ∧ wd = d)))
    (c0 : Hid (∀ w, Calls Try.prog 23 #[.int .i64 y, .int .i64 m] w fun e w' => e = .returned (.int .i64 N) ∧ w = w'))
    (c1 : Hid (∀ w, Calls Try.prog 20 #[.agg #[.int .i64 0, .bool false, .int .i64 y, .int .i64 m, .int .i64 d, .bool true, .int .i64 0, .int .i64 0, .float .f64 0, .bool false, .float .f64 0, .bool false, .int .i64 0, .bool false, .bool false, .bool false, .int .i64 0, .bool false]] w fun e w' => e = .returned (.agg D1) ∧ Ext w w'))
    (S1 : Hid ((Try.prog.info? 32).map (·.size) = some D1.size)) (Z1 : Hid (18 = D1.size)) (O1 : Hid (D1.all (·.oneCell') = true))
    (c2 : Hid (∀ w, Calls Try.prog 24 #[.agg #[.int .i64 JD, .bool true, .int .i64 0, .int .i64 0, .int .i64 0, .bool false, .int .i64 0, .int .i64 0, .float .f64 0, .bool false, .float .f64 0, .bool false, .int .i64 0, .bool false, .bool false, .bool false, .int .i64 0, .bool false]] w fun e w' => e = .returned (.agg D2) ∧ Ext w w'))
    (S2 : Hid ((Try.prog.info? 32).map (·.size) = some D2.size)) (Z2 : Hid (18 = D2.size)) (O2 : Hid (D2.all (·.oneCell') = true))
    (F : Hid (D1[17]? = some (.bool false) ∧ D1[1]? = some (.bool true) ∧ D1[0]? = some (.int .i64 JD)))
    (G : Hid (D2[17]? = some (.bool false) ∧ D2[5]? = some (.bool true) ∧ D2[0]? = some (.int .i64 JD) ∧ D2[2]? = some (.int .i64 y) ∧ D2[3]? = some (.int .i64 wm) ∧ D2[4]? = some (.int .i64 wd))) :
    Calls Try.prog 7 #[.int .i64 y, .int .i64 m, .int .i64 d] w fun e w' => e = .returned (.bool true) ∧ Ext w w' := by
  go_enter Try.func7, Try.ntmps7
  go_upto_region 3 with (go_at_call 23; refine (c0.out _).mono ?_; rintro e w' ⟨rfl, rfl⟩)
  go_cut [7] (fun a wx => ∃ b, a = .pointer (some ⟨b, 0, none⟩) ∧ Hid (Ext w wx ∧ b < wx.heap.size ∧ wx.heap[b]? = some (.cells D1 32)))
  case first =>
    go_wp2_with (first | (go_at_call 20; refine (c1.out _).mono ?_; rintro e w' ⟨rfl, hx⟩) | ((with_reducible refine wpList_store_new ?_ 32 (.tmp 7) (.tmp 32) ?_ D1 ?_ ?_ 32 _ S1.out ?_ O1.out ?_); (exact rfl); (exact rfl); (exact rfl); (exact rfl); (exact Z1.out)))
    go_meet
    case rel => exact ⟨_, rfl, hx.trans (ext_alloc _ _ _), by simp, heap_new _ _⟩
  case rest =>
      obtain ⟨p, rfl, hf⟩ := hcut
      obtain ⟨g0, g2, g1⟩ := hf.out
      have GX : Hid (Ext w wc ∧ p < wc.heap.size ∧ wc.heap[p]? = some (.cells D1 32)) := ⟨g0, g2, g1⟩
      have e1 := cell_heap g1 17 _ F.out.1
      have e2 := cell_heap g1 1 _ F.out.2.1
      have e3 := cell_heap g1 0 _ F.out.2.2
      clear hf g0 g1 g2
      go_upto_region 8 with fail
      go_cut [8] (fun a wx => ∃ b, a = .pointer (some ⟨b, 0, none⟩) ∧ Hid (Ext w wx ∧ wx.heap[p]? = some (.cells D1 32) ∧ wx.heap[b]? = some (.cells D2 32)))
      case first =>
        go_wp2_with (first | (go_at_call 24; refine (c2.out _).mono ?_; rintro e w' ⟨rfl, hx⟩) | ((with_reducible refine wpList_store_new ?_ 32 (.tmp 8) (.tmp 61) ?_ D2 ?_ ?_ 32 _ S2.out ?_ O2.out ?_); (exact rfl); (exact rfl); (exact rfl); (exact rfl); (exact Z2.out)))
        go_meet
        case rel =>
          have hx2 := hx.trans (ext_alloc _ D2 32)
          exact ⟨_, rfl, GX.out.1.trans hx2, (hx2.heap p GX.out.2.1).trans GX.out.2.2, heap_new _ _⟩
      case rest =>
        obtain ⟨q, rfl, hf⟩ := hcut
        clear e1 e2 e3 GX
        obtain ⟨g0, g1, g2⟩ := hf.out
        have GY : Hid (Ext w wc) := g0
        have e1 := cell_heap g2 17 _ G.out.1
        have e2 := cell_heap g2 5 _ G.out.2.1
        have e3 := cell_heap g2 0 _ G.out.2.2.1
        have e4 := cell_heap g1 0 _ F.out.2.2
        have e5 := cell_heap g2 2 _ G.out.2.2.2.1
        have e6 := cell_heap g2 3 _ G.out.2.2.2.2.1
        have e7 := cell_heap g2 4 _ G.out.2.2.2.2.2
        clear hf g0 g1 g2
        have q1 : (JD != JD) = false := by simp
        have q2 : (y == y) = true := by simp
        go_upto_region 9 with fail
        go_cut [75] (fun a wx => a = .bool false ∧ wc = wx)
        case first =>
          by_cases hy : y = -4713
          · subst hy
            have hm : ¬ m < 11 := fun hm => h.out ⟨rfl, Or.inl hm⟩
            by_cases h11 : m = 11
            · subst h11
              have hd : ¬ d ≤ 24 := fun hd => h.out ⟨rfl, Or.inr ⟨rfl, hd⟩⟩
              go_wp2_with fail
              go_meet
              case rel => exact ⟨rfl, rfl⟩
            · have q3 : (m == 11) = false := by simpa using h11
              go_wp2_with fail
              go_meet
              case rel => exact ⟨rfl, rfl⟩
          · have q3 : (y == -4713) = false := by simpa using hy
            go_wp2_with fail
            go_meet
            case rel => exact ⟨rfl, rfl⟩
        case rest =>
          obtain ⟨rfl, rfl⟩ := hcut
          rcases hw.out with ⟨hM, rfl, rfl⟩ | ⟨hM, rfl, rfl⟩
          · obtain ⟨rfl, rfl, h300, hmod⟩ := hM
            have c5 : Hid (∀ w, Calls Try.prog 25 #[.int .i64 y, .int .i64 3, .int .i64 1] w fun e w' => e = .returned (.bool true) ∧ w = w') := fun w => feb29_yes y w h300 (by rw [hmod]; rfl)
            go_wp2_with (go_at_call 25; refine (c5.out _).mono ?_; rintro e w' ⟨rfl, rfl⟩)
            go_ret
            exact ⟨rfl, GY.out⟩
          · have c5 : Hid (∀ w, Calls Try.prog 25 #[.int .i64 y, .int .i64 wm, .int .i64 wd] w fun e w' => e = .returned (.bool false) ∧ w = w') := fun w => feb29_no y wm wd w hM
            have q3 : (wm == wm) = true := by simp
            have q4 : (wd == wd) = true := by simp
            clear hM
            go_wp2_with (go_at_call 25; refine (c5.out _).mono ?_; rintro e w' ⟨rfl, rfl⟩)
            go_ret
            exact ⟨rfl, GY.out⟩

end Go.Proofs.Qxb6604200a
