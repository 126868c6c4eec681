/-
  The walk of FnJulianOfCivilIsMidnight.
-/
import Derived.Test.Qxb6604200aOrdered
import Derived.Test.Qxb6604200aJulianCall
namespace Go.Proofs.Qxb6604200a
open Go.RowKit

set_option maxHeartbeats 1000000 in
set_option maxRecDepth 10000 in
theorem midnight_bad (jd : Int) (w : World) (h : jd < 0 ∨ 464269060799999 < jd) (D : Array Value)
    (c1 : Hid (∀ w, Calls Try.prog 24 #[.agg #[.int .i64 jd, .bool true, .int .i64 0, .int .i64 0, .int .i64 0, .bool false, .int .i64 0, .int .i64 0, .float .f64 0, .bool false, .float .f64 0, .bool false, .int .i64 0, .bool false, .bool false, .bool false, .int .i64 0, .bool false]] w fun e w' => e = .returned (.agg D) ∧ Ext w w'))
    (S1 : Hid ((Try.prog.info? 32).map (·.size) = some D.size)) (Z1 : Hid (18 = D.size)) (O1 : Hid (D.all (·.oneCell') = true))
    (F : Hid (D[17]? = some (.bool true) ∧ D[5]? = some (.bool false) ∧ D[1]? = some (.bool false))) :
    Calls Try.prog 9 #[.int .i64 jd] w fun e w' => e = .returned (.bool true) ∧ Ext w w' := by
  have HB : Hid (jd < 0 ∨ 464269060799999 < jd) := h
  clear h
  go_enter Try.func9, Try.ntmps9
  go_upto_region 1 with fail
  go_cut [3] (fun a wx => ∃ b, a = .pointer (some ⟨b, 0, none⟩) ∧ Hid (Ext w wx ∧ wx.heap[b]? = some (.cells D 32)))
  case first =>
    go_wp2_with (first | (go_at_call 24; refine (c1.out _).mono ?_; rintro e w' ⟨rfl, hx⟩) | ((with_reducible refine wpList_store_new ?_ 32 (.tmp 3) (.tmp 7) ?_ D ?_ ?_ 32 _ S1.out ?_ O1.out ?_); (exact rfl); (exact rfl); (exact rfl); (exact rfl); (exact Z1.out)))
    go_meet
    case rel => exact ⟨_, rfl, hx.trans (ext_alloc _ _ _), heap_new _ _⟩
  case rest =>
    obtain ⟨p, rfl, hf⟩ := hcut
    obtain ⟨g0, g1⟩ := hf.out
    have GX : Hid (Ext w wc) := g0
    have e1 := cell_heap g1 17 _ F.out.1
    have e2 := cell_heap g1 5 _ F.out.2.1
    have e3 := cell_heap g1 1 _ F.out.2.2
    clear hf g0 g1
    by_cases h1 : jd < 0
    · go_wp2
      go_ret
      exact ⟨rfl, GX.out⟩
    · have h2 : 464269060799999 < jd := by
        rcases HB.out with h | h
        · exact absurd h h1
        · exact h
      go_wp2
      go_ret
      exact ⟨rfl, GX.out⟩

set_option maxHeartbeats 1000000 in
set_option maxRecDepth 10000 in
theorem midnight_core (jd y m d JD : Int) (w : World) (h1 : 0 ≤ jd) (h2 : jd ≤ 464269060799999) (hJ : Hid (JD = jd - (jd + 43200000) % 86400000)) (D D2 : Array Value)
    (c1 : Hid (∀ w, Calls Try.prog 24 #[.agg #[.int .i64 jd, .bool true, .int .i64 0, .int .i64 0, .int .i64 0, .bool false, .int .i64 0, .int .i64 0, .float .f64 0, .bool false, .float .f64 0, .bool false, .int .i64 0, .bool false, .bool false, .bool false, .int .i64 0, .bool false]] w fun e w' => e = .returned (.agg D) ∧ Ext w w'))
    (c2 : Hid (∀ w, Calls Try.prog 20 #[.agg #[.int .i64 0, .bool false, .int .i64 y, .int .i64 m, .int .i64 d, .bool true, .int .i64 0, .int .i64 0, .float .f64 0, .bool false, .float .f64 0, .bool false, .int .i64 0, .bool false, .bool false, .bool false, .int .i64 0, .bool false]] w fun e w' => e = .returned (.agg D2) ∧ Ext w w'))
    (S1 : Hid ((Try.prog.info? 32).map (·.size) = some D.size)) (Z1 : Hid (18 = D.size)) (O1 : Hid (D.all (·.oneCell') = true))
    (S2 : Hid ((Try.prog.info? 32).map (·.size) = some D2.size)) (Z2 : Hid (18 = D2.size)) (O2 : Hid (D2.all (·.oneCell') = true))
    (F : Hid (D[17]? = some (.bool false) ∧ D[5]? = some (.bool true) ∧ D[2]? = some (.int .i64 y) ∧ D[3]? = some (.int .i64 m) ∧ D[4]? = some (.int .i64 d)))
    (G : Hid (D2[17]? = some (.bool false) ∧ D2[1]? = some (.bool true) ∧ D2[0]? = some (.int .i64 JD))) :
    Calls Try.prog 9 #[.int .i64 jd] w fun e w' => e = .returned (.bool true) ∧ Ext w w' := by
  go_enter Try.func9, Try.ntmps9
  go_upto_region 1 with fail
  go_cut [3] (fun a wx => ∃ b, a = .pointer (some ⟨b, 0, none⟩) ∧ Hid (Ext w wx ∧ wx.heap[b]? = some (.cells D 32)))
  case first =>
    go_wp2_with (first | (go_at_call 24; refine (c1.out _).mono ?_; rintro e w' ⟨rfl, hx⟩) | ((with_reducible refine wpList_store_new ?_ 32 (.tmp 3) (.tmp 7) ?_ D ?_ ?_ 32 _ S1.out ?_ O1.out ?_); (exact rfl); (exact rfl); (exact rfl); (exact rfl); (exact Z1.out)))
    go_meet
    case rel => exact ⟨_, rfl, hx.trans (ext_alloc _ _ _), heap_new _ _⟩
  case rest =>
    obtain ⟨p, rfl, hf⟩ := hcut
    obtain ⟨g0, g1⟩ := hf.out
    have GX : Hid (Ext w wc) := g0
    have e1 := cell_heap g1 17 _ F.out.1
    have e2 := cell_heap g1 5 _ F.out.2.1
    have e3 := cell_heap g1 2 _ F.out.2.2.1
    have e4 := cell_heap g1 3 _ F.out.2.2.2.1
    have e5 := cell_heap g1 4 _ F.out.2.2.2.2
    clear hf g0 g1
    go_upto_region 6 with fail
    go_cut [4] (fun a wx => ∃ b, a = .pointer (some ⟨b, 0, none⟩) ∧ Hid (Ext w wx ∧ wx.heap[b]? = some (.cells D2 32)))
    case first =>
      go_wp2_with (first | (go_at_call 20; refine (c2.out _).mono ?_; rintro e w' ⟨rfl, hx⟩) | ((with_reducible refine wpList_store_new ?_ 32 (.tmp 4) (.tmp 40) ?_ D2 ?_ ?_ 32 _ S2.out ?_ O2.out ?_); (exact rfl); (exact rfl); (exact rfl); (exact rfl); (exact Z2.out)))
      go_meet
      case rel => exact ⟨_, rfl, (GX.out.trans hx).trans (ext_alloc _ _ _), heap_new _ _⟩
    case rest =>
      obtain ⟨q, rfl, hf⟩ := hcut
      clear e1 e2 e3 e4 e5
      obtain ⟨g0, g1⟩ := hf.out
      have GY : Hid (Ext w wc) := g0
      have e1 := cell_heap g1 17 _ G.out.1
      have e2 := cell_heap g1 1 _ G.out.2.1
      have e3 := cell_heap g1 0 _ G.out.2.2
      clear hf g0 g1
      have hq : (JD == jd - (jd + 43200000) % 86400000) = true := by rw [hJ.out]; simp
      go_wp2
      go_ret
      exact ⟨rfl, GY.out⟩

end Go.Proofs.Qxb6604200a
