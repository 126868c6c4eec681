/-
  The walk of FnJulianEraCalendarModel.
-/
import Derived.Test.Qxb6604200aCivilEra
namespace Go.Proofs.Qxb6604200a
open Go.RowKit

set_option maxHeartbeats 1000000 in
set_option maxRecDepth 10000 in
theorem julianEra_skip (C : Array Value) (w : World)
    (c19 : Hid (∀ w, Calls Try.prog 19 #[.agg C] w fun e w' => e = .returned (.bool false) ∧ Ext w w'))
    (SC : Hid ((Try.prog.info? 30).map (·.size) = some C.size)) :
    Calls Try.prog 6 #[.agg C] w fun e w' => e = .returned (.bool true) ∧ Ext w w' := by
  go_enter Try.func6, Try.ntmps6
  go_upto_region 1 with fail
  go_cut [6] (fun a wx => a = .bool true ∧ Hid (Ext w wx ∧ w.heap.size < wx.heap.size ∧ wx.heap[w.heap.size]? = some (.cells C 30)))
  case first =>
    go_wp2_with (first | ((with_reducible refine wpList_load_new ?_ 30 (.tmp 1) ?_ w.heap.size ?_ ?_ 30 C _ Try.underlying30 rfl SC.out ?_); (exact rfl); (exact rfl); (exact rfl); (exact rfl)) | (go_at_call 19; refine (c19.out _).mono ?_; rintro e w' ⟨rfl, hx⟩))
    go_meet
    case rel =>
      have hx0 := ext_alloc w C 30
      have hs : w.heap.size < (w.alloc (.cells C 30)).heap.size := by simp
      exact ⟨rfl, hx0.trans hx, Nat.lt_of_lt_of_le hs hx.size, (hx.heap _ hs).trans (heap_new w _)⟩
  case rest =>
    obtain ⟨rfl, hf⟩ := hcut
    go_wp2
    go_ret
    exact ⟨rfl, hf.out.1⟩

set_option maxHeartbeats 1000000 in
set_option maxRecDepth 10000 in
theorem julianEra_core (C D : Array Value) (w : World)
    (c19 : Hid (∀ w, Calls Try.prog 19 #[.agg C] w fun e w' => e = .returned (.bool true) ∧ Ext w w'))
    (c20 : Hid (∀ w, Calls Try.prog 20 #[.agg C] w fun e w' => e = .returned (.agg D) ∧ Ext w w'))
    (c22 : Hid (∀ w, Calls Try.prog 22 #[.agg C] w fun e w' => e = .returned (.agg D) ∧ Ext w w'))
    (c21 : Hid (∀ w, Calls Try.prog 21 #[.agg D, .agg D] w fun e w' => e = .returned (.bool true) ∧ Ext w w'))
    (SC : Hid ((Try.prog.info? 30).map (·.size) = some C.size)) (SD : Hid ((Try.prog.info? 30).map (·.size) = some D.size)) (ZD : Hid (18 = D.size)) (OD : Hid (D.all (·.oneCell') = true)) :
    Calls Try.prog 6 #[.agg C] w fun e w' => e = .returned (.bool true) ∧ Ext w w' := by
  go_enter Try.func6, Try.ntmps6
  go_upto_region 1 with fail
  go_cut [6] (fun a wx => a = .bool false ∧ Hid (Ext w wx ∧ w.heap.size < wx.heap.size ∧ wx.heap[w.heap.size]? = some (.cells C 30)))
  case first =>
    go_wp2_with (first | ((with_reducible refine wpList_load_new ?_ 30 (.tmp 1) ?_ w.heap.size ?_ ?_ 30 C _ Try.underlying30 rfl SC.out ?_); (exact rfl); (exact rfl); (exact rfl); (exact rfl)) | (go_at_call 19; refine (c19.out _).mono ?_; rintro e w' ⟨rfl, hx⟩))
    go_meet
    case rel =>
      have hx0 := ext_alloc w C 30
      have hs : w.heap.size < (w.alloc (.cells C 30)).heap.size := by simp
      exact ⟨rfl, hx0.trans hx, Nat.lt_of_lt_of_le hs hx.size, (hx.heap _ hs).trans (heap_new w _)⟩
  case rest =>
    obtain ⟨rfl, hf⟩ := hcut
    go_upto_region 3 with fail
    have HW : Hid (wc.heap[w.heap.size]? = some (.cells C 30)) := hf.out.2.2
    go_cut [3] (fun a wx => ∃ b, a = .pointer (some ⟨b, 0, none⟩) ∧ Hid (Ext w wx ∧ wx.heap[w.heap.size]? = some (.cells C 30) ∧ b < wx.heap.size ∧ wx.heap[b]? = some (.cells D 30)))
    case first =>
      go_wp2_with (first | ((with_reducible refine wpList_load_row ?_ 30 (.tmp 1) ?_ w.heap.size ?_ 30 C (0, 0) _ HW.out Try.underlying30 rfl SC.out ?_); (exact rfl); (exact rfl); (exact rfl)) | (go_at_call 20; refine (c20.out _).mono ?_; rintro e w' ⟨rfl, hx⟩) | ((with_reducible refine wpList_store_new ?_ 30 (.tmp 3) (.tmp 8) ?_ D ?_ ?_ 30 _ SD.out ?_ OD.out ?_); (exact rfl); (exact rfl); (exact rfl); (exact rfl); (exact ZD.out)))
      go_meet
      case rel =>
        have hx2 := hx.trans (ext_alloc _ D 30)
        exact ⟨_, rfl, hf.out.1.trans hx2, (hx2.heap _ hf.out.2.1).trans hf.out.2.2, by simp, heap_new _ _⟩
    case rest =>
      obtain ⟨b, rfl, hf2⟩ := hcut
      clear hf HW
      obtain ⟨g0, g2, g3, g4⟩ := hf2.out
      have GX : Hid (Ext w wc.drew) := g0.trans (ext_drew wc)
      have hb0 : wc.drew.heap[b]? = some (.cells D 30) := g4
      have hb1 : wc.drew.heap[w.heap.size]? = some (.cells C 30) := g2
      have HB : Hid (b < wc.drew.heap.size) := g3
      clear hf2 g0 g2 g3 g4
      go_upto_region 4 with fail
      refine wp_region_any (by kernel_rfl) ?_
      change wpAny _ _ _ _ _ _ _ (World.drew _)
      refine wpAny_ready (rs := [0, 1]) (by kernel_rfl) (by simp) ?_
      refine AllReady.cons rfl (fun K hK => ?_) (AllReady.cons rfl (fun K hK => ?_) AllReady.nil)
      · refine wanted_load rfl 30 (.tmp 3) rfl b rfl 30 D (0, 0) _ hb0 Try.underlying30 rfl SD.out ?_
        refine hK _ _ ?_
        clear hK K
        refine wpAny_ready (rs := [1]) (by kernel_rfl) (by simp) ?_
        refine AllReady.cons rfl (fun K hK => ?_) AllReady.nil
        refine wanted_load rfl 30 (.tmp 1) rfl w.heap.size rfl 30 C (0, 0) _ hb1 Try.underlying30 rfl SC.out ?_
        refine hK _ _ ?_
        clear hK K
        refine wpAny_ready (rs := [2]) (by kernel_rfl) (by simp) ?_
        refine AllReady.cons rfl (fun K hK => ?_) AllReady.nil
        go_simp
        go_wp2_with (go_at_call 22; refine (c22.out _).mono ?_; rintro e w3 ⟨rfl, hw3⟩)
        refine wpAny_ready (rs := [3]) (by kernel_rfl) (by simp) ?_
        refine AllReady.cons rfl (fun K hK => ?_) AllReady.nil
        go_simp
        go_wp2_with (go_at_call 21; refine (c21.out _).mono ?_; rintro e w4 ⟨rfl, hw4⟩)
        refine wpAny_ready (rs := [4]) (by kernel_rfl) (by simp) ?_
        refine AllReady.cons rfl (fun K hK => ?_) AllReady.nil
        go_simp
        refine hK _ _ ?_
        clear hK K
        refine wpAny_done (by kernel_rfl) ?_ _
        go_wp2
        go_ret
        exact ⟨rfl, (GX.out.trans hw3).trans hw4⟩
      · refine wanted_load rfl 30 (.tmp 1) rfl w.heap.size rfl 30 C (0, 0) _ hb1 Try.underlying30 rfl SC.out ?_
        refine hK _ _ ?_
        clear hK K
        refine wpAny_ready (rs := [0, 2]) (by kernel_rfl) (by simp) ?_
        refine AllReady.cons rfl (fun K hK => ?_) (AllReady.cons rfl (fun K hK => ?_) AllReady.nil)
        · refine wanted_load rfl 30 (.tmp 3) rfl b rfl 30 D (0, 0) _ hb0 Try.underlying30 rfl SD.out ?_
          refine hK _ _ ?_
          clear hK K
          refine wpAny_ready (rs := [2]) (by kernel_rfl) (by simp) ?_
          refine AllReady.cons rfl (fun K hK => ?_) AllReady.nil
          go_simp
          go_wp2_with (go_at_call 22; refine (c22.out _).mono ?_; rintro e w3 ⟨rfl, hw3⟩)
          refine wpAny_ready (rs := [3]) (by kernel_rfl) (by simp) ?_
          refine AllReady.cons rfl (fun K hK => ?_) AllReady.nil
          go_simp
          go_wp2_with (go_at_call 21; refine (c21.out _).mono ?_; rintro e w4 ⟨rfl, hw4⟩)
          refine wpAny_ready (rs := [4]) (by kernel_rfl) (by simp) ?_
          refine AllReady.cons rfl (fun K hK => ?_) AllReady.nil
          go_simp
          refine hK _ _ ?_
          clear hK K
          refine wpAny_done (by kernel_rfl) ?_ _
          go_wp2
          go_ret
          exact ⟨rfl, (GX.out.trans hw3).trans hw4⟩
        · go_simp
          go_wp2_with (go_at_call 22; refine (c22.out _).mono ?_; rintro e w3 ⟨rfl, hw3⟩)
          have hb3 := (hw3.heap b HB.out).trans hb0
          refine wpAny_ready (rs := [0]) (by kernel_rfl) (by simp) ?_
          refine AllReady.cons rfl (fun K hK => ?_) AllReady.nil
          refine wanted_load rfl 30 (.tmp 3) rfl b rfl 30 D (0, 0) _ hb3 Try.underlying30 rfl SD.out ?_
          refine hK _ _ ?_
          clear hK K
          refine wpAny_ready (rs := [3]) (by kernel_rfl) (by simp) ?_
          refine AllReady.cons rfl (fun K hK => ?_) AllReady.nil
          go_simp
          go_wp2_with (go_at_call 21; refine (c21.out _).mono ?_; rintro e w4 ⟨rfl, hw4⟩)
          refine wpAny_ready (rs := [4]) (by kernel_rfl) (by simp) ?_
          refine AllReady.cons rfl (fun K hK => ?_) AllReady.nil
          go_simp
          refine hK _ _ ?_
          clear hK K
          refine wpAny_done (by kernel_rfl) ?_ _
          go_wp2
          go_ret
          exact ⟨rfl, (GX.out.trans hw3).trans hw4⟩

end Go.Proofs.Qxb6604200a
