/-
  The proof of Rows.FnJulianOfCivilIsMidnightSaid. The frame is the guide's; the walk and what it leans on are ours.
-/
import Derived.Test.Qxb6604200aRows
import Derived.WalkKit
import Derived.ProofKit
import Derived.OpenShut
import Derived.Test.Qxb6604200aMidnight
import Derived.ShutString
namespace Go.Proofs.Qxb6604200a.fnJulianOfCivilIsMidnight
open Go.ChangeShapes Go.WideShapes Go.ChangeAt Go.RowKit
open Go.ChangeMaps (open_string shut_string)
set_option linter.unusedVariables false      -- a walk need not use every 'w<i>' (that an integer argument fits its kind)

theorem own : ownKnob Try.prog.godebug = none := by kernel_rfl

/-! ### STEP 1: THE WALK -/
theorem walk (a0 : Int) (w0 : (Lit.int .i64 a0).wf = true) (w : World) :
    Calls Try.prog 9 #[.int .i64 a0] w fun e w' => e = .returned (.bool true) ∧ Grown w w' := by
  by_cases h : a0 < 0 ∨ 464269060799999 < a0
  · refine (midnight_bad a0 w h (row 0 false 0 0 0 false 0 0 0 false 0 false 0 false false false 0 true) (fun w => zzCivil_bad a0 0 0 0 0 0 0 0 0 0 false false false false false false w h)
      (size32 0 0 0 0 0 0 0 0 0 0 false false false false false false false true) rfl (one18 0 0 0 0 0 0 0 0 0 0 false false false false false false false true) ⟨rfl, rfl, rfl⟩).mono ?_
    rintro e w' ⟨rfl, hx⟩
    exact ⟨rfl, hx.grown⟩
  · obtain ⟨E, q, t, v, r, hd⟩ := Cal.dec_ex ((a0 + 43200000) / 86400000 - 1721120)
    obtain ⟨y, m, d, hi⟩ := Cal.date_ex hd
    have hb := Cal.date_bounds (by omega) (by omega) hd hi
    obtain ⟨D, c1, S1, Z1, O1, x17, x5, x1, x0, x2, x3, x4⟩ := civ_fact a0 (by omega) (by omega) hd hi
    have hback := Cal.back hd hi
    obtain ⟨n, hn⟩ : ∃ n, n = (a0 + 43200000) / 86400000 - 1721120 := ⟨_, rfl⟩
    rw [← hn] at hback
    refine (midnight_core a0 y m d (86400000 * (n + 1721120) - 43200000) w (by omega) (by omega) (show _ = _ by omega) D (row (86400000 * (n + 1721120) - 43200000) true y m d true 0 0 0 false 0 false 0 false false false 0 false) c1
      (fun w => zzJulian_date 0 y m d 0 0 0 0 0 0 false false false false w n hb.1 hb.2.1 hb.2.2.1 hb.2.2.2.1 (by omega) (by omega) hback.1 hback.2)
      S1 Z1 O1 (size32 _ y m d 0 0 0 0 0 0 true true false false false false false false) rfl (one18 _ y m d 0 0 0 0 0 0 true true false false false false false false) ⟨x17, x5, x2, x3, x4⟩ ⟨rfl, rfl, rfl⟩).mono ?_
    rintro e w' ⟨rfl, hx⟩
    exact ⟨rfl, hx.grown⟩

/-! ### THE ROW's STEP: WRITTEN OUT: LEAVE IT -/
set_option maxRecDepth 100000 in
theorem lifted (os : Os) (started : os.Started) (H : Type) (enc : TypeId × Value → H) :
    ReturnsInHanded {} Try.checked os 9 .any (Rows.fnJulianOfCivilIsMidnightSpec.pre6 enc Try.prog Try.f9 Rows.fnJulianOfCivilIsMidnightRow.domain false) (Rows.fnJulianOfCivilIsMidnightSpec.post enc Try.prog Try.f9 false true false false) := by
  refine returnsInHanded_of_change (C := Try.checked) own started (by kernel_rfl) Try.func9
    (ChangeSpec.witness6 (enc := enc) (C := Try.checked) false ⟨#[], #[.int .i64 0], []⟩ 8 (by kernel_rfl) (by kernel_rfl) (by kernel_rfl) (by kernel_rfl)) ?_
  intro W base args ds gs before hval0 hW hcnd _
  have hval : ∀ (j : Nat) t v, Try.f9.params[j]? = some t → args[j]? = some v → Value.okWide Try.prog W .any base t v := hval0
  have hW' := hW
  obtain ⟨p, q, hA0, hV, rfl, hfz, hnd⟩ := hW
  have hA : DataW.TrodAll enc Try.prog W 0 (fun _ => true) true Try.f9.params.toList args.toList ds p := hA0
  rw [Try.params9] at hA hval
  obtain ⟨v0, vs0, d0, ds0, p0, q0, hargs, rfl, rfl, h0, r0⟩ := trodAll_cons hA
  obtain ⟨rfl, rfl, rfl⟩ := trodAll_nil r0
  obtain rfl : args = #[v0] := by cases args; simp_all
  obtain ⟨rfl, rfl⟩ := trodVars_none hV
  obtain ⟨a0, rfl, rfl, rfl, w0⟩ := open_int Try.underlying2 (hval 0 2 v0 rfl rfl) h0
  clear hA0 hval0
  simp only [List.append_nil] at hW'
  refine (walk a0 w0 W).mono fun e W' ⟨he, hg⟩ => ?_
  subst he
  exact ⟨_, rfl, post_of_same (pa := []) (pv := []) hW' (fun _ _ _ => (trodAll_cons_mk (shut_bool Try.underlying4 _) trodAll_mk0)) (fun sp _ => (trodAll_cons_mk (shut_int Try.underlying2 w0) trodAll_mk0)) (fun _ _ => rfl) rfl
    (hg.frame _) hg.2.1 (ok_one (by kernel_rfl) rfl (okWide_bool_mk Try.underlying4 _))⟩

theorem over : Rows.fnJulianOfCivilIsMidnightRow.holds Try.pinned (OpenSpec.ofChange Rows.fnJulianOfCivilIsMidnightSpec) :=
  OpenClaim.holds_of_wide 9 Try.f9 rfl rfl rfl rfl rfl rfl rfl ⟨rfl, rfl, rfl, rfl, rfl⟩ rfl rfl rfl rfl rfl (by kernel_rfl) Try.func9 (by kernel_rfl)
    (of_decide_eq_true (by kernel_rfl)) (by unfold Func.isWrapper; first | (rw [if_pos (by decide +kernel)]; kernel_rfl) | (rw [if_neg (by decide +kernel)]; exact ⟨rfl, rfl⟩))
    (fun os started H enc _ => lifted os started H enc)

/-- ████ THE STATEMENT ████ -/
theorem proved : Rows.FnJulianOfCivilIsMidnightSaid :=
  over
#print axioms proved
end Go.Proofs.Qxb6604200a.fnJulianOfCivilIsMidnight
