/-
  The proof of Rows.FnCivilUndoesJulianOnRealDatesSaid. The frame is the guide's; the walk and what it leans on are ours.
-/
import Derived.Test.Qxb6604200aRows
import Derived.WalkKit
import Derived.ProofKit
import Derived.OpenShut
import Derived.Test.Qxb6604200aUndoes
import Derived.ShutString
namespace Go.Proofs.Qxb6604200a.fnCivilUndoesJulianOnRealDates
open Go.ChangeShapes Go.WideShapes Go.ChangeAt Go.RowKit
open Go.ChangeMaps (open_string shut_string)
set_option linter.unusedVariables false      -- a walk need not use every 'w<i>' (that an integer argument fits its kind)

theorem own : ownKnob Try.prog.godebug = none := by kernel_rfl

/-! ### STEP 1: THE WALK -/
theorem walk (a0 : Int) (a1 : Int) (a2 : Int) (w0 : (Lit.int .i64 a0).wf = true) (w1 : (Lit.int .i64 a1).wf = true) (w2 : (Lit.int .i64 a2).wf = true) (w : World) :
    Calls Try.prog 7 #[.int .i64 a0, .int .i64 a1, .int .i64 a2] w fun e w' => e = .returned (.bool true) ∧ Grown w w' := by
  by_cases h : a1 < 1 ∨ 12 < a1 ∨ a2 < 1 ∨ Cal.daysIn a0 a1 < a2
  · refine (undoes_skip a0 a1 a2 w h).mono ?_
    rintro e w' ⟨rfl, hx⟩
    exact ⟨rfl, hx.grown⟩
  · have m1 : 1 ≤ a1 := by omega
    have m12 : a1 ≤ 12 := by omega
    have d1 : 1 ≤ a2 := by omega
    have dN : a2 ≤ Cal.daysIn a0 a1 := by omega
    have c0 := daysIn_any a0 a1
    by_cases hy : a0 < -4713 ∨ 9999 < a0
    · refine (undoes_bad a0 a1 a2 _ w m1 m12 d1 dN hy (row 0 false 0 0 0 false 0 0 0 false 0 false 0 false false false 0 true) c0
        (fun w => zzJulian_bad 0 a0 a1 a2 0 0 0 0 0 0 false false false false false false w (by omega))
        (size32 0 0 0 0 0 0 0 0 0 0 false false false false false false false true) rfl (one18 0 0 0 0 0 0 0 0 0 0 false false false false false false false true) ⟨rfl, rfl, rfl⟩).mono ?_
      rintro e w' ⟨rfl, hx⟩
      exact ⟨rfl, hx.grown⟩
    · obtain ⟨n, E, q, t, v, r, hD, hn1, hn2, hM, hNM, hd31⟩ := Cal.real_date m1 m12 d1 dN
      have h30 : a1 = 11 → a2 ≤ 30 := by
        intro h11
        subst h11
        exact dN
      obtain ⟨hr1, hr2, hr3⟩ := Cal.real_range (by omega) (by omega) m1 m12 d1 hd31 h30 hn1 hn2
      have cj := fun w => zzJulian_date 0 a0 a1 a2 0 0 0 0 0 0 false false false false w n (by omega) (by omega) m1 m12 (by omega) (by omega) hn1 hn2
      obtain ⟨JD, hJ⟩ : ∃ JD, JD = 86400000 * (n + 1721120) - 43200000 := ⟨_, rfl⟩
      rw [← hJ] at cj
      by_cases he : a0 = -4713 ∧ (a1 < 11 ∨ a1 = 11 ∧ a2 ≤ 24)
      · have hz := hr2.2 he
        obtain ⟨rfl, he2⟩ := he
        refine (undoes_early a1 a2 _ JD w m1 m12 d1 dN he2 (row JD true (-4713) a1 a2 true 0 0 0 false 0 false 0 false false false 0 false) (row 0 false 0 0 0 false 0 0 0 false 0 false 0 false false false 0 true) c0 cj
          (size32 _ _ _ _ 0 0 0 0 0 0 true true false false false false false false) rfl (one18 _ _ _ _ 0 0 0 0 0 0 true true false false false false false false)
          (fun w => zzCivil_bad JD 0 0 0 0 0 0 0 0 0 false false false false false false w (by omega))
          (size32 0 0 0 0 0 0 0 0 0 0 false false false false false false false true) rfl (one18 0 0 0 0 0 0 0 0 0 0 false false false false false false false true) ⟨rfl, rfl, rfl⟩ ⟨rfl, rfl, rfl⟩).mono ?_
        rintro e w' ⟨rfl, hx⟩
        exact ⟨rfl, hx.grown⟩
      · have hz : 0 < n + 1721120 := by
          refine Int.not_le.1 fun hle => he (hr2.1 hle)
        have hzn : (JD + 43200000) / 86400000 - 1721120 = n := by omega
        obtain ⟨wm, wd, hw, hi⟩ : ∃ wm wd, ((Cal.March a0 a1 a2 ∧ wm = 2 ∧ wd = 29) ∨ (¬ Cal.March a0 a1 a2 ∧ wm = a1 ∧ wd = a2)) ∧ Cal.IsDate E q t v r a0 wm wd := by
          by_cases hm : Cal.March a0 a1 a2
          · exact ⟨2, 29, Or.inl ⟨hm, rfl, rfl⟩, hM hm⟩
          · exact ⟨a1, a2, Or.inr ⟨hm, rfl, rfl⟩, hNM hm⟩
        refine (undoes_core a0 a1 a2 wm wd _ JD w (by omega) (by omega) m1 m12 d1 dN he (row JD true a0 a1 a2 true 0 0 0 false 0 false 0 false false false 0 false) (row JD true a0 wm wd true 0 0 0 false 0 false 0 false false false 0 false) hw c0 cj
          (size32 _ _ _ _ 0 0 0 0 0 0 true true false false false false false false) rfl (one18 _ _ _ _ 0 0 0 0 0 0 true true false false false false false false)
          (fun w => zzCivil_date JD 0 0 0 0 0 0 0 0 0 false false false false false false w (by omega) (by omega) (by rw [hzn]; exact hD) hi)
          (size32 _ _ _ _ 0 0 0 0 0 0 true true false false false false false false) rfl (one18 _ _ _ _ 0 0 0 0 0 0 true true false false false false false false) ⟨rfl, rfl, rfl⟩ ⟨rfl, rfl, rfl, rfl, rfl, rfl⟩).mono ?_
        rintro e w' ⟨rfl, hx⟩
        exact ⟨rfl, hx.grown⟩

/-! ### THE ROW's STEP: WRITTEN OUT: LEAVE IT -/
set_option maxRecDepth 100000 in
theorem lifted (os : Os) (started : os.Started) (H : Type) (enc : TypeId × Value → H) :
    ReturnsInHanded {} Try.checked os 7 .any (Rows.fnCivilUndoesJulianOnRealDatesSpec.pre6 enc Try.prog Try.f7 Rows.fnCivilUndoesJulianOnRealDatesRow.domain false) (Rows.fnCivilUndoesJulianOnRealDatesSpec.post enc Try.prog Try.f7 false true false false) := by
  refine returnsInHanded_of_change (C := Try.checked) own started (by kernel_rfl) Try.func7
    (ChangeSpec.witness6 (enc := enc) (C := Try.checked) false ⟨#[], #[.int .i64 0, .int .i64 0, .int .i64 0], []⟩ 8 (by kernel_rfl) (by kernel_rfl) (by kernel_rfl) (by kernel_rfl)) ?_
  intro W base args ds gs before hval0 hW hcnd _
  have hval : ∀ (j : Nat) t v, Try.f7.params[j]? = some t → args[j]? = some v → Value.okWide Try.prog W .any base t v := hval0
  have hW' := hW
  obtain ⟨p, q, hA0, hV, rfl, hfz, hnd⟩ := hW
  have hA : DataW.TrodAll enc Try.prog W 0 (fun _ => true) true Try.f7.params.toList args.toList ds p := hA0
  rw [Try.params7] at hA hval
  obtain ⟨v0, vs0, d0, ds0, p0, q0, hargs, rfl, rfl, h0, r0⟩ := trodAll_cons hA
  obtain ⟨v1, vs1, d1, ds1, p1, q1, rfl, rfl, rfl, h1, r1⟩ := trodAll_cons r0
  obtain ⟨v2, vs2, d2, ds2, p2, q2, rfl, rfl, rfl, h2, r2⟩ := trodAll_cons r1
  obtain ⟨rfl, rfl, rfl⟩ := trodAll_nil r2
  obtain rfl : args = #[v0, v1, v2] := by cases args; simp_all
  obtain ⟨rfl, rfl⟩ := trodVars_none hV
  obtain ⟨a0, rfl, rfl, rfl, w0⟩ := open_int Try.underlying3 (hval 0 3 v0 rfl rfl) h0
  obtain ⟨a1, rfl, rfl, rfl, w1⟩ := open_int Try.underlying3 (hval 1 3 v1 rfl rfl) h1
  obtain ⟨a2, rfl, rfl, rfl, w2⟩ := open_int Try.underlying3 (hval 2 3 v2 rfl rfl) h2
  clear hA0 hval0
  simp only [List.append_nil] at hW'
  refine (walk a0 a1 a2 w0 w1 w2 W).mono fun e W' ⟨he, hg⟩ => ?_
  subst he
  exact ⟨_, rfl, post_of_same (pa := []) (pv := []) hW' (fun _ _ _ => (trodAll_cons_mk (shut_bool Try.underlying4 _) trodAll_mk0)) (fun sp _ => (trodAll_cons_mk (shut_int Try.underlying3 w0) (trodAll_cons_mk (shut_int Try.underlying3 w1) (trodAll_cons_mk (shut_int Try.underlying3 w2) trodAll_mk0)))) (fun _ _ => rfl) rfl
    (hg.frame _) hg.2.1 (ok_one (by kernel_rfl) rfl (okWide_bool_mk Try.underlying4 _))⟩

theorem over : Rows.fnCivilUndoesJulianOnRealDatesRow.holds Try.pinned (OpenSpec.ofChange Rows.fnCivilUndoesJulianOnRealDatesSpec) :=
  OpenClaim.holds_of_wide 7 Try.f7 rfl rfl rfl rfl rfl rfl rfl ⟨rfl, rfl, rfl, rfl, rfl⟩ rfl rfl rfl rfl rfl (by kernel_rfl) Try.func7 (by kernel_rfl)
    (of_decide_eq_true (by kernel_rfl)) (by unfold Func.isWrapper; first | (rw [if_pos (by decide +kernel)]; kernel_rfl) | (rw [if_neg (by decide +kernel)]; exact ⟨rfl, rfl⟩))
    (fun os started H enc _ => lifted os started H enc)

/-- ████ THE STATEMENT ████ -/
theorem proved : Rows.FnCivilUndoesJulianOnRealDatesSaid :=
  over
#print axioms proved
end Go.Proofs.Qxb6604200a.fnCivilUndoesJulianOnRealDates
