/-
  The walk of FnCivilEraCalendarModel.
-/
import Derived.Test.Qxb6604200aModelBase
import Derived.Deep.RegionWith
namespace Go.Proofs.Qxb6604200a
open Go.RowKit

theorem ext_drew (w : World) : Ext w w.drew := ⟨(Grown.refl w).drew, fun _ _ => rfl⟩

theorem wanted_load {P : Program} {ops : Array Oper} {o : Oper} {a : Act} {w : World} {K : Act → World → Prop} {Q : Exit → Act → World → Prop} {T : Array Value} (hgd : o.guard = none) (ty : TypeId) (x : Operand) (ho : o.op = .load ty x)
    (g : Nat) (hx : a.eval x = .pointer (some ⟨g, 0, none⟩)) (t : TypeId) (cs : Array Value) (fr : Nat × Nat) (d : TypeDesc) (hg : w.heap[g]? = some (.cells cs t fr))
    (hu : P.underlying ty = some d) (hd : (match d with | .struct _ | .array _ _ => true | _ => false) = true) (hi : (P.info? ty).map (·.size) = some cs.size)
    (h : K (a.put o.dst (.agg cs)) w) : if Region.wanted o (yielded ops T) = true then Oper.wp P o a w K Q else K (a.put o.dst undef) w := by
  have hw : Region.wanted o (yielded ops T) = true := by unfold Region.wanted; rw [hgd]
  rw [if_pos hw]
  exact wp_load_row ty x ho g hx t cs fr d hg hu hd hi h

set_option maxHeartbeats 1000000 in
set_option maxRecDepth 10000 in
theorem civilEra_core (C D : Array Value) (w : World)
    (c24 : Hid (∀ w, Calls Try.prog 24 #[.agg C] w fun e w' => e = .returned (.agg D) ∧ Ext w w'))
    (c26 : Hid (∀ w, Calls Try.prog 26 #[.agg C] w fun e w' => e = .returned (.agg D) ∧ Ext w w'))
    (c21 : Hid (∀ w, Calls Try.prog 21 #[.agg D, .agg D] w fun e w' => e = .returned (.bool true) ∧ Ext w w'))
    (SC : Hid ((Try.prog.info? 30).map (·.size) = some C.size)) (SD : Hid ((Try.prog.info? 30).map (·.size) = some D.size)) (ZD : Hid (18 = D.size)) (OD : Hid (D.all (·.oneCell') = true)) :
    Calls Try.prog 8 #[.agg C] w fun e w' => e = .returned (.bool true) ∧ Ext w w' := by
  go_enter Try.func8, Try.ntmps8
  go_upto_region 1 with fail
  go_cut [3] (fun a wx => ∃ b, a = .pointer (some ⟨b, 0, none⟩) ∧ Hid (Ext w wx ∧ w.heap.size < wx.heap.size ∧ wx.heap[w.heap.size]? = some (.cells C 30) ∧ b < wx.heap.size ∧ wx.heap[b]? = some (.cells D 30)))
  case first =>
    go_wp2_with (first | ((with_reducible refine wpList_load_new ?_ 30 (.tmp 1) ?_ w.heap.size ?_ ?_ 30 C _ Try.underlying30 rfl SC.out ?_); (exact rfl); (exact rfl); (exact rfl); (exact rfl)) | (go_at_call 24; refine (c24.out _).mono ?_; rintro e w' ⟨rfl, hx⟩) | ((with_reducible refine wpList_store_new ?_ 30 (.tmp 3) (.tmp 5) ?_ D ?_ ?_ 30 _ SD.out ?_ OD.out ?_); (exact rfl); (exact rfl); (exact rfl); (exact rfl); (exact ZD.out)))
    go_meet
    case rel =>
      have hx0 := ext_alloc w C 30
      have hx2 := hx.trans (ext_alloc _ D 30)
      have hs : w.heap.size < (w.alloc (.cells C 30)).heap.size := by simp
      exact ⟨_, rfl, hx0.trans hx2, Nat.lt_of_lt_of_le hs hx2.size, (hx2.heap _ hs).trans (heap_new w _), by simp, heap_new _ _⟩
  case rest =>
    obtain ⟨b, rfl, hf⟩ := hcut
    obtain ⟨g0, g1, g2, g3, g4⟩ := hf.out
    have GX : Hid (Ext w wc.drew) := g0.trans (ext_drew wc)
    have hb0 : wc.drew.heap[b]? = some (.cells D 30) := g4
    have hb1 : wc.drew.heap[w.heap.size]? = some (.cells C 30) := g2
    have HB : Hid (b < wc.drew.heap.size) := g3
    clear hf g0 g1 g2 g3 g4
    go_upto_region 2 with fail
    refine wp_region_any (by kernel_rfl) ?_
    change wpAny _ _ _ _ _ _ _ (World.drew _)
    refine wpAny_ready (rs := [0, 1]) (by kernel_rfl) (by simp) ?_
    refine AllReady.cons rfl (fun K hK => ?_) (AllReady.cons rfl (fun K hK => ?_) AllReady.nil)
    · refine wanted_load rfl 30 (.tmp 3) rfl b rfl 30 D (0, 0) _ hb0 Try.underlying30 rfl SD.out ?_
      refine hK _ _ ?_
      clear hK K
      refine wpAny_ready (rs := [1]) (by kernel_rfl) (by simp) ?_
      refine AllReady.cons rfl (fun K hK => ?_) AllReady.nil
      refine wanted_load rfl 30 (.tmp 1) rfl w.heap.size rfl 30 C (0, 0) _ hb1 Try.underlying30 rfl SC.out ?_
      refine hK _ _ ?_
      clear hK K
      refine wpAny_ready (rs := [2]) (by kernel_rfl) (by simp) ?_
      refine AllReady.cons rfl (fun K hK => ?_) AllReady.nil
      go_simp
      go_wp2_with (go_at_call 26; refine (c26.out _).mono ?_; rintro e w3 ⟨rfl, hw3⟩)
      refine wpAny_ready (rs := [3]) (by kernel_rfl) (by simp) ?_
      refine AllReady.cons rfl (fun K hK => ?_) AllReady.nil
      go_simp
      go_wp2_with (go_at_call 21; refine (c21.out _).mono ?_; rintro e w4 ⟨rfl, hw4⟩)
      refine wpAny_ready (rs := [4]) (by kernel_rfl) (by simp) ?_
      refine AllReady.cons rfl (fun K hK => ?_) AllReady.nil
      go_simp
      refine hK _ _ ?_
      clear hK K
      refine wpAny_done (by kernel_rfl) ?_ _
      go_wp2
      go_ret
      exact ⟨rfl, (GX.out.trans hw3).trans hw4⟩
    · refine wanted_load rfl 30 (.tmp 1) rfl w.heap.size rfl 30 C (0, 0) _ hb1 Try.underlying30 rfl SC.out ?_
      refine hK _ _ ?_
      clear hK K
      refine wpAny_ready (rs := [0, 2]) (by kernel_rfl) (by simp) ?_
      refine AllReady.cons rfl (fun K hK => ?_) (AllReady.cons rfl (fun K hK => ?_) AllReady.nil)
      · refine wanted_load rfl 30 (.tmp 3) rfl b rfl 30 D (0, 0) _ hb0 Try.underlying30 rfl SD.out ?_
        refine hK _ _ ?_
        clear hK K
        refine wpAny_ready (rs := [2]) (by kernel_rfl) (by simp) ?_
        refine AllReady.cons rfl (fun K hK => ?_) AllReady.nil
        go_simp
        go_wp2_with (go_at_call 26; refine (c26.out _).mono ?_; rintro e w3 ⟨rfl, hw3⟩)
        refine wpAny_ready (rs := [3]) (by kernel_rfl) (by simp) ?_
        refine AllReady.cons rfl (fun K hK => ?_) AllReady.nil
        go_simp
        go_wp2_with (go_at_call 21; refine (c21.out _).mono ?_; rintro e w4 ⟨rfl, hw4⟩)
        refine wpAny_ready (rs := [4]) (by kernel_rfl) (by simp) ?_
        refine AllReady.cons rfl (fun K hK => ?_) AllReady.nil
        go_simp
        refine hK _ _ ?_
        clear hK K
        refine wpAny_done (by kernel_rfl) ?_ _
        go_wp2
        go_ret
        exact ⟨rfl, (GX.out.trans hw3).trans hw4⟩
      · go_simp
        go_wp2_with (go_at_call 26; refine (c26.out _).mono ?_; rintro e w3 ⟨rfl, hw3⟩)
        have hb3 := (hw3.heap b HB.out).trans hb0
        refine wpAny_ready (rs := [0]) (by kernel_rfl) (by simp) ?_
        refine AllReady.cons rfl (fun K hK => ?_) AllReady.nil
        refine wanted_load rfl 30 (.tmp 3) rfl b rfl 30 D (0, 0) _ hb3 Try.underlying30 rfl SD.out ?_
        refine hK _ _ ?_
        clear hK K
        refine wpAny_ready (rs := [3]) (by kernel_rfl) (by simp) ?_
        refine AllReady.cons rfl (fun K hK => ?_) AllReady.nil
        go_simp
        go_wp2_with (go_at_call 21; refine (c21.out _).mono ?_; rintro e w4 ⟨rfl, hw4⟩)
        refine wpAny_ready (rs := [4]) (by kernel_rfl) (by simp) ?_
        refine AllReady.cons rfl (fun K hK => ?_) AllReady.nil
        go_simp
        refine hK _ _ ?_
        clear hK K
        refine wpAny_done (by kernel_rfl) ?_ _
        go_wp2
        go_ret
        exact ⟨rfl, (GX.out.trans hw3).trans hw4⟩

end Go.Proofs.Qxb6604200a
