/-
  The proof of Rows.FnCivilOrderedAndBoundedSaid. The frame is the guide's; the walk and what it leans on are ours.
-/
import Derived.Test.Qxb6604200aRows
import Derived.WalkKit
import Derived.ProofKit
import Derived.OpenShut
import Derived.Test.Qxb6604200aOrdered
import Derived.ShutString
namespace Go.Proofs.Qxb6604200a.fnCivilOrderedAndBounded
open Go.ChangeShapes Go.WideShapes Go.ChangeAt Go.RowKit
open Go.ChangeMaps (open_string shut_string)
set_option linter.unusedVariables false      -- a walk need not use every 'w<i>' (that an integer argument fits its kind)

theorem own : ownKnob Try.prog.godebug = none := by kernel_rfl

/-! ### out of range: true at once -/
set_option maxHeartbeats 1000000 in
theorem walk_out (a0 a1 : Int) (w : World) (h : a0 < 0 ∨ 464269060799999 < a0 ∨ a1 < 0 ∨ 464269060799999 < a1) :
    Calls Try.prog 10 #[.int .i64 a0, .int .i64 a1] w fun e w' => e = .returned (.bool true) ∧ Grown w w' := by
  by_cases h1 : a0 < 0
  · clear h
    go_enter Try.func10, Try.ntmps10
    go_wp2
    go_ret
    exact ⟨rfl, Grown.refl _⟩
  · by_cases h2 : 464269060799999 < a0
    · clear h
      go_enter Try.func10, Try.ntmps10
      go_wp2
      go_ret
      exact ⟨rfl, Grown.refl _⟩
    · by_cases h3 : a1 < 0
      · clear h
        go_enter Try.func10, Try.ntmps10
        go_wp2
        go_ret
        exact ⟨rfl, Grown.refl _⟩
      · have h4 : 464269060799999 < a1 := by omega
        clear h
        go_enter Try.func10, Try.ntmps10
        go_wp2
        go_ret
        exact ⟨rfl, Grown.refl _⟩

theorem walk_in (a0 a1 lo hi : Int) (w : World) (hlh : (a0 ≤ a1 ∧ lo = a0 ∧ hi = a1) ∨ (a1 < a0 ∧ lo = a1 ∧ hi = a0)) (l1 : 0 ≤ a0) (l2 : a0 ≤ 464269060799999) (k1 : 0 ≤ a1) (k2 : a1 ≤ 464269060799999) :
    Calls Try.prog 10 #[.int .i64 a0, .int .i64 a1] w fun e w' => e = .returned (.bool true) ∧ Grown w w' := by
  have b1 : 0 ≤ lo := by omega
  have b2 : lo ≤ 464269060799999 := by omega
  have b3 : 0 ≤ hi := by omega
  have b4 : hi ≤ 464269060799999 := by omega
  have hle : lo ≤ hi := by omega
  obtain ⟨E, q, t, v, r, hd⟩ := Cal.dec_ex ((lo + 43200000) / 86400000 - 1721120)
  obtain ⟨y1, m1, d1, hi1⟩ := Cal.date_ex hd
  have hb := Cal.date_bounds (by omega) (by omega) hd hi1
  obtain ⟨D1, c1, S1, Z1, O1, x17, x5, x1, x0, x2, x3, x4⟩ := civ_fact lo b1 b2 hd hi1
  by_cases hz : (lo + 43200000) / 86400000 = (hi + 43200000) / 86400000
  · have hd' := hd
    rw [hz] at hd'
    obtain ⟨D2, c2, S2, Z2, O2, z17, z5, z1, z0, z2, z3, z4⟩ := civ_fact hi b3 b4 hd' hi1
    refine (ordered_core a0 a1 lo hi w hlh l1 l2 k1 k2 D1 D2 y1 m1 d1 y1 m1 d1 c1 c2 S1 S2 Z1 Z2 O1 O2
      (fun w => bounds27 D1 lo y1 m1 d1 w x17 x5 x1 x0 x2 x3 x4 hb.1 hb.2.1 hb.2.2.1 hb.2.2.2.1 hb.2.2.2.2.1 hb.2.2.2.2.2)
      (fun w => bounds27 D2 hi y1 m1 d1 w z17 z5 z1 z0 z2 z3 z4 hb.1 hb.2.1 hb.2.2.1 hb.2.2.2.1 hb.2.2.2.2.1 hb.2.2.2.2.2)
      ⟨x2, x3, x4⟩ ⟨z2, z3, z4⟩ (Or.inl ⟨hz, rfl, rfl, rfl⟩)).mono ?_
    rintro e w' ⟨rfl, hx⟩
    exact ⟨rfl, hx.grown⟩
  · obtain ⟨E', q', t', v', r', hd'⟩ := Cal.dec_ex ((hi + 43200000) / 86400000 - 1721120)
    obtain ⟨y2, m2, d2, hi2⟩ := Cal.date_ex hd'
    have hb' := Cal.date_bounds (by omega) (by omega) hd' hi2
    have hk := Cal.key_lt hd hd' hi1 hi2 (by omega)
    obtain ⟨D2, c2, S2, Z2, O2, z17, z5, z1, z0, z2, z3, z4⟩ := civ_fact hi b3 b4 hd' hi2
    refine (ordered_core a0 a1 lo hi w hlh l1 l2 k1 k2 D1 D2 y1 m1 d1 y2 m2 d2 c1 c2 S1 S2 Z1 Z2 O1 O2
      (fun w => bounds27 D1 lo y1 m1 d1 w x17 x5 x1 x0 x2 x3 x4 hb.1 hb.2.1 hb.2.2.1 hb.2.2.2.1 hb.2.2.2.2.1 hb.2.2.2.2.2)
      (fun w => bounds27 D2 hi y2 m2 d2 w z17 z5 z1 z0 z2 z3 z4 hb'.1 hb'.2.1 hb'.2.2.1 hb'.2.2.2.1 hb'.2.2.2.2.1 hb'.2.2.2.2.2)
      ⟨x2, x3, x4⟩ ⟨z2, z3, z4⟩ (Or.inr ⟨hz, by omega⟩)).mono ?_
    rintro e w' ⟨rfl, hx⟩
    exact ⟨rfl, hx.grown⟩

/-! ### STEP 1: THE WALK -/
theorem walk (a0 : Int) (a1 : Int) (w0 : (Lit.int .i64 a0).wf = true) (w1 : (Lit.int .i64 a1).wf = true) (w : World) :
    Calls Try.prog 10 #[.int .i64 a0, .int .i64 a1] w fun e w' => e = .returned (.bool true) ∧ Grown w w' := by
  by_cases h : a0 < 0 ∨ 464269060799999 < a0 ∨ a1 < 0 ∨ 464269060799999 < a1
  · exact walk_out a0 a1 w h
  · by_cases h' : a0 ≤ a1
    · exact walk_in a0 a1 a0 a1 w (Or.inl ⟨h', rfl, rfl⟩) (by omega) (by omega) (by omega) (by omega)
    · exact walk_in a0 a1 a1 a0 w (Or.inr ⟨by omega, rfl, rfl⟩) (by omega) (by omega) (by omega) (by omega)

/-! ### THE ROW's STEP: WRITTEN OUT: LEAVE IT -/
set_option maxRecDepth 100000 in
theorem lifted (os : Os) (started : os.Started) (H : Type) (enc : TypeId × Value → H) :
    ReturnsInHanded {} Try.checked os 10 .any (Rows.fnCivilOrderedAndBoundedSpec.pre6 enc Try.prog Try.f10 Rows.fnCivilOrderedAndBoundedRow.domain false) (Rows.fnCivilOrderedAndBoundedSpec.post enc Try.prog Try.f10 false true false false) := by
  refine returnsInHanded_of_change (C := Try.checked) own started (by kernel_rfl) Try.func10
    (ChangeSpec.witness6 (enc := enc) (C := Try.checked) false ⟨#[], #[.int .i64 0, .int .i64 0], []⟩ 8 (by kernel_rfl) (by kernel_rfl) (by kernel_rfl) (by kernel_rfl)) ?_
  intro W base args ds gs before hval0 hW hcnd _
  have hval : ∀ (j : Nat) t v, Try.f10.params[j]? = some t → args[j]? = some v → Value.okWide Try.prog W .any base t v := hval0
  have hW' := hW
  obtain ⟨p, q, hA0, hV, rfl, hfz, hnd⟩ := hW
  have hA : DataW.TrodAll enc Try.prog W 0 (fun _ => true) true Try.f10.params.toList args.toList ds p := hA0
  rw [Try.params10] at hA hval
  obtain ⟨v0, vs0, d0, ds0, p0, q0, hargs, rfl, rfl, h0, r0⟩ := trodAll_cons hA
  obtain ⟨v1, vs1, d1, ds1, p1, q1, rfl, rfl, rfl, h1, r1⟩ := trodAll_cons r0
  obtain ⟨rfl, rfl, rfl⟩ := trodAll_nil r1
  obtain rfl : args = #[v0, v1] := by cases args; simp_all
  obtain ⟨rfl, rfl⟩ := trodVars_none hV
  obtain ⟨a0, rfl, rfl, rfl, w0⟩ := open_int Try.underlying2 (hval 0 2 v0 rfl rfl) h0
  obtain ⟨a1, rfl, rfl, rfl, w1⟩ := open_int Try.underlying2 (hval 1 2 v1 rfl rfl) h1
  clear hA0 hval0
  simp only [List.append_nil] at hW'
  refine (walk a0 a1 w0 w1 W).mono fun e W' ⟨he, hg⟩ => ?_
  subst he
  exact ⟨_, rfl, post_of_same (pa := []) (pv := []) hW' (fun _ _ _ => (trodAll_cons_mk (shut_bool Try.underlying4 _) trodAll_mk0)) (fun sp _ => (trodAll_cons_mk (shut_int Try.underlying2 w0) (trodAll_cons_mk (shut_int Try.underlying2 w1) trodAll_mk0))) (fun _ _ => rfl) rfl
    (hg.frame _) hg.2.1 (ok_one (by kernel_rfl) rfl (okWide_bool_mk Try.underlying4 _))⟩

theorem over : Rows.fnCivilOrderedAndBoundedRow.holds Try.pinned (OpenSpec.ofChange Rows.fnCivilOrderedAndBoundedSpec) :=
  OpenClaim.holds_of_wide 10 Try.f10 rfl rfl rfl rfl rfl rfl rfl ⟨rfl, rfl, rfl, rfl, rfl⟩ rfl rfl rfl rfl rfl (by kernel_rfl) Try.func10 (by kernel_rfl)
    (of_decide_eq_true (by kernel_rfl)) (by unfold Func.isWrapper; first | (rw [if_pos (by decide +kernel)]; kernel_rfl) | (rw [if_neg (by decide +kernel)]; exact ⟨rfl, rfl⟩))
    (fun os started H enc _ => lifted os started H enc)

/-- ████ THE STATEMENT ████ -/
theorem proved : Rows.FnCivilOrderedAndBoundedSaid :=
  over
#print axioms proved
end Go.Proofs.Qxb6604200a.fnCivilOrderedAndBounded
