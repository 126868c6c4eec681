/-
  The proof of Rows.FnLikeCharAgreesWithUTF8OnValidTextSaid. The frame is the guide's; the walk and what it leans on are ours.
-/
import Derived.Test.Qxb6604200aRows
import Derived.WalkKit
import Derived.ProofKit
import Derived.OpenShut
import Derived.ShutString
import Derived.Test.Qxb6604200aUtfWalk
namespace Go.Proofs.Qxb6604200a.fnLikeCharAgreesWithUTF8OnValidText
open Go.ChangeShapes Go.WideShapes Go.ChangeAt Go.RowKit
open Go.ChangeMaps (open_string shut_string)
set_option linter.unusedVariables false      -- a walk need not use every 'w<i>' (that an integer argument fits its kind)

theorem own : ownKnob Try.prog.godebug = none := by kernel_rfl

set_option maxHeartbeats 400000 in
theorem bytes14 (s : ByteArray) (w : World) (hs : s.size ≤ maxLen) :
    Calls Try.prog 14 #[.string s] w fun e w' => e = .returned (.bool (decide ((s.size : Int) ≤ 1048576))) ∧ w' = w := by
  unfold maxLen at hs
  by_cases h : (s.size : Int) ≤ 1048576
  · rw [decide_eq_true h]
    go_enter Try.func14, Try.ntmps14
    go_wp2
    go_ret
    exact ⟨rfl, rfl⟩
  · rw [decide_eq_false h]
    have h' : 1048576 < (s.size : Int) := by omega
    go_enter Try.func14, Try.ntmps14
    go_wp2
    go_ret
    exact ⟨rfl, rfl⟩

/-- what the text's first sequence is, where zzValidUTF8 has gone through -/
theorem first_seq (l : List UInt8) (h0 : 0 < l.length) (h : Seen l l.length) :
    ∃ n v, Like.Good l n v ∧ Like.num l = n ∧ Like.chr l = if v = 65534 ∨ v = 65535 then 65533 else (v : Int) := by
  rcases h with h | ⟨n, v, g, h⟩
  · omega
  · refine ⟨n, v, g, Like.good_like g ?_⟩
    intro hn
    rcases h with h | ⟨n', v', g'⟩
    · omega
    · have e := g'.head
      rw [List.drop_eq_getElem_cons hn] at e
      exact e

theorem dec_first (s : ByteArray) (w : World) (hs : s.size ≤ 1048576) (h0 : 0 < s.size) {n v : Nat} (g : Like.Good s.data.toList n v) :
    Calls Try.prog 16 #[.string s, .int .i64 0] w fun e w' => e = .returned (.tuple #[.int .i32 v, .int .i64 n, .bool true]) ∧ w = w' := by
  refine (dec_any s 0 w hs h0).mono ?_
  rintro e w' ⟨r, n', ok, rfl, hp, rfl⟩
  refine ⟨?_, rfl⟩
  rw [List.drop_zero] at hp
  cases ok with
  | false => exact absurd g (hp.2 rfl n v)
  | true =>
    obtain ⟨v', rfl, g'⟩ := hp.1 rfl
    obtain ⟨rfl, rfl⟩ := g.unique g'
    rfl

/-! ### STEP 1: THE WALK -/
set_option maxHeartbeats 1000000 in
set_option maxRecDepth 10000 in
theorem walk (a0 : ByteArray) (w0 : a0.size ≤ maxLen) (w : World) :
    Calls Try.prog 4 #[.string a0] w fun e w' => e = .returned (.bool true) ∧ Grown w w' := by
  have W0 := w0
  unfold maxLen at w0
  by_cases hb : (a0.size : Int) ≤ 1048576
  · have H14 : Hid (∀ w, Calls Try.prog 14 #[.string a0] w fun e w' => e = .returned (.bool true) ∧ w' = w) := fun w => by
      have := bytes14 a0 w W0
      rw [decide_eq_true hb] at this
      exact this
    by_cases h0 : 0 < a0.size
    · have hb' : a0.size ≤ 1048576 := by omega
      have hz : ((a0.size : Int) == 0) = false := by rw [beq_eq_false_iff_ne]; omega
      by_cases hseen : Seen a0.data.toList a0.data.toList.length
      · obtain ⟨N, v, g, hN, hC⟩ := first_seq a0.data.toList h0 hseen
        have c15 : Hid (∀ w, Calls Try.prog 15 #[.string a0] w fun e w' => (∃ ok : Bool, e = .returned (.bool ok)) ∧ w = w') := fun w => by
          refine (valid_any a0 w hb').mono ?_
          rintro e w' ⟨ok, rfl, _, rfl⟩
          exact ⟨⟨ok, rfl⟩, rfl⟩
        have c16 : Hid (∀ w, Calls Try.prog 16 #[.string a0, .int .i64 0] w fun e w' => e = .returned (.tuple #[.int .i32 v, .int .i64 N, .bool true]) ∧ w = w') := fun w => dec_first a0 w hb' h0 g
        have c12 := fun w => zzLikeChar_any a0 w W0 h0
        rw [hN, hC] at c12
        by_cases hv : v = 65534 ∨ v = 65535
        · rw [if_pos hv] at c12
          have C12 : Hid (∀ w, Calls Try.prog 12 #[.string a0] w fun e w' => e = .returned (.tuple #[.int .i32 65533, .int .i64 N]) ∧ w' = w) := c12
          clear c12 hN hC hseen W0 g
          rcases hv with rfl | rfl
          all_goals
            go_enter Try.func4, Try.ntmps4
            go_wp2_with (first | (go_at_call 14; refine (H14.out _).mono ?_; rintro e w' ⟨rfl, rfl⟩) | (go_at_call 12; refine (C12.out _).mono ?_; rintro e w' ⟨rfl, rfl⟩) | (go_at_call 16; refine (c16.out _).mono ?_; rintro e w' ⟨rfl, rfl⟩) | (go_at_call 15; refine (c15.out _).mono ?_; rintro e w' ⟨⟨ok, rfl⟩, rfl⟩))
            all_goals go_ret
            all_goals exact ⟨rfl, Grown.refl _⟩
        · rw [if_neg hv] at c12
          have C12 : Hid (∀ w, Calls Try.prog 12 #[.string a0] w fun e w' => e = .returned (.tuple #[.int .i32 v, .int .i64 N]) ∧ w' = w) := c12
          have hv1 : ((v : Int) == 65534) = false := by simp; omega
          have hv2 : ((v : Int) == 65535) = false := by simp; omega
          clear c12 hN hC hseen W0 g hv
          all_goals
            go_enter Try.func4, Try.ntmps4
            go_wp2_with (first | (go_at_call 14; refine (H14.out _).mono ?_; rintro e w' ⟨rfl, rfl⟩) | (go_at_call 12; refine (C12.out _).mono ?_; rintro e w' ⟨rfl, rfl⟩) | (go_at_call 16; refine (c16.out _).mono ?_; rintro e w' ⟨rfl, rfl⟩) | (go_at_call 15; refine (c15.out _).mono ?_; rintro e w' ⟨⟨ok, rfl⟩, rfl⟩))
            all_goals go_ret
            all_goals exact ⟨rfl, Grown.refl _⟩
      · have c15 : Hid (∀ w, Calls Try.prog 15 #[.string a0] w fun e w' => e = .returned (.bool false) ∧ w = w') := fun w => by
          refine (valid_any a0 w hb').mono ?_
          rintro e w' ⟨ok, rfl, h, rfl⟩
          cases ok with
          | false => exact ⟨rfl, rfl⟩
          | true => exact absurd (h rfl) hseen
        clear W0 hseen
        go_enter Try.func4, Try.ntmps4
        go_wp2_with (first | (go_at_call 14; refine (H14.out _).mono ?_; rintro e w' ⟨rfl, rfl⟩) | (go_at_call 15; refine (c15.out _).mono ?_; rintro e w' ⟨rfl, rfl⟩))
        go_ret
        exact ⟨rfl, Grown.refl _⟩
    · have hz : ((a0.size : Int) == 0) = true := by rw [beq_iff_eq]; omega
      clear W0
      go_enter Try.func4, Try.ntmps4
      go_wp2_with (go_at_call 14; refine (H14.out _).mono ?_; rintro e w' ⟨rfl, rfl⟩)
      go_ret
      exact ⟨rfl, Grown.refl _⟩
  · have H14 : Hid (∀ w, Calls Try.prog 14 #[.string a0] w fun e w' => e = .returned (.bool false) ∧ w' = w) := fun w => by
      have := bytes14 a0 w W0
      rw [decide_eq_false hb] at this
      exact this
    clear W0
    go_enter Try.func4, Try.ntmps4
    go_wp2_with (go_at_call 14; refine (H14.out _).mono ?_; rintro e w' ⟨rfl, rfl⟩)
    go_ret
    exact ⟨rfl, Grown.refl _⟩

/-! ### THE ROW's STEP: WRITTEN OUT: LEAVE IT -/
set_option maxRecDepth 100000 in
theorem lifted (os : Os) (started : os.Started) (H : Type) (enc : TypeId × Value → H) :
    ReturnsInHanded {} Try.checked os 4 .any (Rows.fnLikeCharAgreesWithUTF8OnValidTextSpec.pre6 enc Try.prog Try.f4 Rows.fnLikeCharAgreesWithUTF8OnValidTextRow.domain false) (Rows.fnLikeCharAgreesWithUTF8OnValidTextSpec.post enc Try.prog Try.f4 false true false false) := by
  refine returnsInHanded_of_change (C := Try.checked) own started (by kernel_rfl) Try.func4
    (ChangeSpec.witness6 (enc := enc) (C := Try.checked) false ⟨#[], #[.string ByteArray.empty], []⟩ 8 (by kernel_rfl) (by kernel_rfl) (by kernel_rfl) (by kernel_rfl)) ?_
  intro W base args ds gs before hval0 hW hcnd _
  have hval : ∀ (j : Nat) t v, Try.f4.params[j]? = some t → args[j]? = some v → Value.okWide Try.prog W .any base t v := hval0
  have hW' := hW
  obtain ⟨p, q, hA0, hV, rfl, hfz, hnd⟩ := hW
  have hA : DataW.TrodAll enc Try.prog W 0 (fun _ => true) true Try.f4.params.toList args.toList ds p := hA0
  rw [Try.params4] at hA hval
  obtain ⟨v0, vs0, d0, ds0, p0, q0, hargs, rfl, rfl, h0, r0⟩ := trodAll_cons hA
  obtain ⟨rfl, rfl, rfl⟩ := trodAll_nil r0
  obtain rfl : args = #[v0] := by cases args; simp_all
  obtain ⟨rfl, rfl⟩ := trodVars_none hV
  obtain ⟨a0, rfl, rfl, rfl, w0⟩ := open_string Try.underlying9 (hval 0 9 v0 rfl rfl) h0
  clear hA0 hval0
  simp only [List.append_nil] at hW'
  refine (walk a0 w0 W).mono fun e W' ⟨he, hg⟩ => ?_
  subst he
  exact ⟨_, rfl, post_of_same (pa := []) (pv := []) hW' (fun _ _ _ => (trodAll_cons_mk (shut_bool Try.underlying4 _) trodAll_mk0)) (fun sp _ => (trodAll_cons_mk (shut_string Try.underlying9 w0) trodAll_mk0)) (fun _ _ => rfl) rfl
    (hg.frame _) hg.2.1 (ok_one (by kernel_rfl) rfl (okWide_bool_mk Try.underlying4 _))⟩

theorem over : Rows.fnLikeCharAgreesWithUTF8OnValidTextRow.holds Try.pinned (OpenSpec.ofChange Rows.fnLikeCharAgreesWithUTF8OnValidTextSpec) :=
  OpenClaim.holds_of_wide 4 Try.f4 rfl rfl rfl rfl rfl rfl rfl ⟨rfl, rfl, rfl, rfl, rfl⟩ rfl rfl rfl rfl rfl (by kernel_rfl) Try.func4 (by kernel_rfl)
    (of_decide_eq_true (by kernel_rfl)) (by unfold Func.isWrapper; first | (rw [if_pos (by decide +kernel)]; kernel_rfl) | (rw [if_neg (by decide +kernel)]; exact ⟨rfl, rfl⟩))
    (fun os started H enc _ => lifted os started H enc)

/-- ████ THE STATEMENT ████ -/
theorem proved : Rows.FnLikeCharAgreesWithUTF8OnValidTextSaid :=
  over
#print axioms proved
end Go.Proofs.Qxb6604200a.fnLikeCharAgreesWithUTF8OnValidText
