/-
  The walks of ZZCivil and ZZJulian: a moment made, turned by civil or julian, and its fields read back. The cells are taken as whole rows (C before, D behind).
-/
import Derived.Test.Qxb6604200aShimBase
namespace Go.Proofs.Qxb6604200a
open Go.RowKit

/-- new blocks alone: every block that stood stands as it did -/
structure Ext (w w' : World) : Prop where
  grown : Grown w w'
  heap : ∀ b, b < w.heap.size → w'.heap[b]? = w.heap[b]?

theorem Ext.size {w w' : World} (h : Ext w w') : w.heap.size ≤ w'.heap.size := h.grown.2.2

theorem ext_five (w : World) (c0 c1 c2 c3 c4 : Array Value) (t0 t1 t2 t3 t4 : TypeId) (k : Nat) : Ext w ((((((w.alloc (.cells c0 t0)).alloc (.cells c1 t1)).alloc (.cells c2 t2)).alloc (.cells c3 t3)).alloc (.cells c4 t4)).drewN k) :=
  ⟨grown_five w c0 c1 c2 c3 c4 t0 t1 t2 t3 t4 k, fun b hb => by
    show (((((w.heap.push _).push _).push _).push _).push _)[b]? = w.heap[b]?
    simp only [Array.getElem?_push, Array.size_push]
    repeat rw [if_neg (by omega)]⟩

theorem ext_alloc (w : World) (c : Array Value) (t : TypeId) : Ext w (w.alloc (.cells c t)) :=
  ⟨(Grown.refl w).alloc c t, fun b hb => by
    show (w.heap.push _)[b]? = w.heap[b]?
    rw [Array.getElem?_push, if_neg (by omega)]⟩

theorem Ext.trans {a b c : World} (h : Ext a b) (h' : Ext b c) : Ext a c :=
  ⟨⟨World.keptBut_trans h.grown.1 h'.grown.1, fun p => (h'.grown.2.1 p).trans (h.grown.2.1 p), Nat.le_trans h.size h'.size⟩, fun i hi => (h'.heap i (Nat.lt_of_lt_of_le hi h.size)).trans (h.heap i hi)⟩

theorem Ext.refl (w : World) : Ext w w := ⟨Grown.refl w, fun _ _ => rfl⟩

set_option maxHeartbeats 1000000 in
set_option maxRecDepth 10000 in
theorem zzCivil_row (C D : Array Value) (w : World) (hD : (Try.prog.info? 32).map (·.size) = some D.size) (hC : (Try.prog.info? 32).map (·.size) = some C.size) (hz : 18 = D.size) (h1 : D.all (·.oneCell') = true)
    (hfrom : ∀ w : World, Calls Try.prog 29 #[.agg C] w fun e w' => e = .returned (.pointer (some ⟨w.heap.size + 1, 0, none⟩)) ∧ w' = (w.alloc (.cells C 32)).alloc (.cells C 53))
    (hc : ∀ (W : World) (b : Nat), W.heap.size = b → Calls Try.prog 34 #[.pointer (some ⟨b, 0, none⟩)] (W.alloc (.cells C 53)) fun e w' => e = .returned (.tuple #[]) ∧ ∃ k, w' = (W.alloc (.cells D 53)).drewN k)
    (hof : ∀ (W : World) (k b : Nat), W.heap.size = b → Calls Try.prog 31 #[.pointer (some ⟨b, 0, none⟩)] ((W.alloc (.cells D 53)).drewN k) fun e w' => e = .returned (.agg D) ∧ w' = ((W.alloc (.cells D 53)).alloc (.cells D 32)).drewN (k + 1)) :
    Calls Try.prog 24 #[.agg C] w fun e w' => e = .returned (.agg D) ∧ Ext w w' := by
  have HF : Hid (∀ w : World, Calls Try.prog 29 #[.agg C] w fun e w' => e = .returned (.pointer (some ⟨w.heap.size + 1, 0, none⟩)) ∧ w' = (w.alloc (.cells C 32)).alloc (.cells C 53)) := hfrom
  have HC : Hid (∀ (W : World) (b : Nat), W.heap.size = b → Calls Try.prog 34 #[.pointer (some ⟨b, 0, none⟩)] (W.alloc (.cells C 53)) fun e w' => e = .returned (.tuple #[]) ∧ ∃ k, w' = (W.alloc (.cells D 53)).drewN k) := hc
  have HO : Hid (∀ (W : World) (k b : Nat), W.heap.size = b → Calls Try.prog 31 #[.pointer (some ⟨b, 0, none⟩)] ((W.alloc (.cells D 53)).drewN k) fun e w' => e = .returned (.agg D) ∧ w' = ((W.alloc (.cells D 53)).alloc (.cells D 32)).drewN (k + 1)) := hof
  have S1 : Hid ((Try.prog.info? 32).map (·.size) = some D.size) := hD
  have S2 : Hid ((Try.prog.info? 32).map (·.size) = some C.size) := hC
  have S3 : Hid (18 = D.size) := hz
  have S4 : Hid (D.all (·.oneCell') = true) := h1
  clear hfrom hc hof hD hC hz h1
  go_enter Try.func24, Try.ntmps24
  go_wp2_with (first | (go_at_call 29; refine (HF.out _).mono ?_; rintro e w' ⟨rfl, rfl⟩) | (go_at_call 34; refine (HC.out _ (w.heap.size + 1 + 1 + 1) ?_).mono ?_; (simp); rintro e w' ⟨rfl, k, rfl⟩) | (go_at_call 31; refine (HO.out _ _ (w.heap.size + 1 + 1 + 1) ?_).mono ?_; (simp); rintro e w' ⟨rfl, rfl⟩) | (refine wpList_load_two rfl 32 (.tmp 1) rfl rfl 32 C _ Try.underlying32 rfl S2.out ?_) | ((with_reducible refine wpList_store_mid ?_ 32 (.tmp 2) (.tmp 9) ?_ D ?_ ?_ 32 _ S1.out ?_ S4.out ?_); (exact rfl); (exact rfl); (exact rfl); (exact rfl); (exact S3.out)))
  refine bodyPost_ret (results_cell rfl _ _ _ (w.heap.size + 1) D rfl (run_loadVar_row _ _ 32 32 _ (0, 0) _ (heap_mid w _ _ _ _ _ _) Try.underlying32 rfl S1.out)) rfl ⟨rfl, ext_five w _ _ _ _ _ _ _ _ _ _ _⟩

set_option maxHeartbeats 1000000 in
set_option maxRecDepth 10000 in
theorem zzJulian_row (C D : Array Value) (w : World) (hD : (Try.prog.info? 32).map (·.size) = some D.size) (hC : (Try.prog.info? 32).map (·.size) = some C.size) (hz : 18 = D.size) (h1 : D.all (·.oneCell') = true)
    (hfrom : ∀ w : World, Calls Try.prog 29 #[.agg C] w fun e w' => e = .returned (.pointer (some ⟨w.heap.size + 1, 0, none⟩)) ∧ w' = (w.alloc (.cells C 32)).alloc (.cells C 53))
    (hc : ∀ (W : World) (b : Nat), W.heap.size = b → Calls Try.prog 30 #[.pointer (some ⟨b, 0, none⟩)] (W.alloc (.cells C 53)) fun e w' => e = .returned (.tuple #[]) ∧ ∃ k, w' = (W.alloc (.cells D 53)).drewN k)
    (hof : ∀ (W : World) (k b : Nat), W.heap.size = b → Calls Try.prog 31 #[.pointer (some ⟨b, 0, none⟩)] ((W.alloc (.cells D 53)).drewN k) fun e w' => e = .returned (.agg D) ∧ w' = ((W.alloc (.cells D 53)).alloc (.cells D 32)).drewN (k + 1)) :
    Calls Try.prog 20 #[.agg C] w fun e w' => e = .returned (.agg D) ∧ Ext w w' := by
  have HF : Hid (∀ w : World, Calls Try.prog 29 #[.agg C] w fun e w' => e = .returned (.pointer (some ⟨w.heap.size + 1, 0, none⟩)) ∧ w' = (w.alloc (.cells C 32)).alloc (.cells C 53)) := hfrom
  have HC : Hid (∀ (W : World) (b : Nat), W.heap.size = b → Calls Try.prog 30 #[.pointer (some ⟨b, 0, none⟩)] (W.alloc (.cells C 53)) fun e w' => e = .returned (.tuple #[]) ∧ ∃ k, w' = (W.alloc (.cells D 53)).drewN k) := hc
  have HO : Hid (∀ (W : World) (k b : Nat), W.heap.size = b → Calls Try.prog 31 #[.pointer (some ⟨b, 0, none⟩)] ((W.alloc (.cells D 53)).drewN k) fun e w' => e = .returned (.agg D) ∧ w' = ((W.alloc (.cells D 53)).alloc (.cells D 32)).drewN (k + 1)) := hof
  have S1 : Hid ((Try.prog.info? 32).map (·.size) = some D.size) := hD
  have S2 : Hid ((Try.prog.info? 32).map (·.size) = some C.size) := hC
  have S3 : Hid (18 = D.size) := hz
  have S4 : Hid (D.all (·.oneCell') = true) := h1
  clear hfrom hc hof hD hC hz h1
  go_enter Try.func20, Try.ntmps20
  go_wp2_with (first | (go_at_call 29; refine (HF.out _).mono ?_; rintro e w' ⟨rfl, rfl⟩) | (go_at_call 30; refine (HC.out _ (w.heap.size + 1 + 1 + 1) ?_).mono ?_; (simp); rintro e w' ⟨rfl, k, rfl⟩) | (go_at_call 31; refine (HO.out _ _ (w.heap.size + 1 + 1 + 1) ?_).mono ?_; (simp); rintro e w' ⟨rfl, rfl⟩) | (refine wpList_load_two rfl 32 (.tmp 1) rfl rfl 32 C _ Try.underlying32 rfl S2.out ?_) | ((with_reducible refine wpList_store_mid ?_ 32 (.tmp 2) (.tmp 9) ?_ D ?_ ?_ 32 _ S1.out ?_ S4.out ?_); (exact rfl); (exact rfl); (exact rfl); (exact rfl); (exact S3.out)))
  refine bodyPost_ret (results_cell rfl _ _ _ (w.heap.size + 1) D rfl (run_loadVar_row _ _ 32 32 _ (0, 0) _ (heap_mid w _ _ _ _ _ _) Try.underlying32 rfl S1.out)) rfl ⟨rfl, ext_five w _ _ _ _ _ _ _ _ _ _ _⟩

end Go.Proofs.Qxb6604200a
