/-
  The proof of Rows.FnLikeCharStepsTileTextSaid. The frame is the guide's; the walk and what it leans on are ours.
-/
import Derived.Test.Qxb6604200aRows
import Derived.WalkKit
import Derived.ProofKit
import Derived.OpenShut
import Derived.ShutString
import Derived.WalkSpells
import Derived.WalkLawsBesides
import Derived.Lib.Strings
import Derived.Lib.IndexBytes
import Derived.Test.Qxb6604200aLikeWalk
namespace Go.Proofs.Qxb6604200a.fnLikeCharStepsTileText
open Go.ChangeShapes Go.WideShapes Go.ChangeAt Go.RowKit
open Go.ChangeMaps (open_string shut_string)
set_option linter.unusedVariables false      -- a walk need not use every 'w<i>' (that an integer argument fits its kind)

theorem own : ownKnob Try.prog.godebug = none := by kernel_rfl

/-! ### one step of the tiling -/
theorem byte_drop (s : ByteArray) (k : Nat) (hk : k < s.size) : (s.data.toList.drop k).headD 0 = s[k] := by
  have h : k < s.data.toList.length := hk
  rw [List.drop_eq_getElem_cons h]; rfl

theorem tile_step (s : ByteArray) (k : Nat) (hs : s.size ≤ maxLen) (hk : k < s.size) :
    ∃ (C : Int) (N : Nat), 1 ≤ N ∧ k + N ≤ s.size ∧
      (∀ w, Calls Try.prog 12 #[.string (s.extract k s.size)] w fun e w' => e = .returned (.tuple #[.int .i32 C, .int .i64 N]) ∧ w' = w) ∧
      (∀ w, Calls Try.prog 12 #[.string (s.extract k (k + N))] w fun e w' => e = .returned (.tuple #[.int .i32 C, .int .i64 N]) ∧ w' = w) ∧
      ((s[k].toNat : Int) < 192 → N = 1 ∧ C = s[k].toNat) ∧
      (192 ≤ (s[k].toNat : Int) → ∀ h : k + N < s.size, Like.cont s[k + N] = false) := by
  have hl : (s.data.toList.drop k).length = s.size - k := by rw [List.length_drop]; rfl
  have e1 : (s.extract k s.size).data.toList = s.data.toList.drop k := Lib.extract_to_end s k
  have n1 := Like.num_pos (s.data.toList.drop k)
  have n2 := Like.num_le (s.data.toList.drop k) (by omega)
  have e2 : (s.extract k (k + Like.num (s.data.toList.drop k))).data.toList = (s.data.toList.drop k).take (Like.num (s.data.toList.drop k)) := by
    rw [Lib.extract_data]; congr 1; omega
  refine ⟨Like.chr (s.data.toList.drop k), Like.num (s.data.toList.drop k), n1, by omega, ?_, ?_, ?_, ?_⟩
  · intro w
    have := zzLikeChar_any (s.extract k s.size) w (by rw [ByteArray.size_extract]; omega) (by rw [ByteArray.size_extract]; omega)
    rw [e1] at this
    exact this
  · intro w
    have := zzLikeChar_any (s.extract k (k + Like.num (s.data.toList.drop k))) w (by rw [ByteArray.size_extract]; omega) (by rw [ByteArray.size_extract]; omega)
    rw [e2, Like.chr_take, Like.num_take] at this
    exact this
  · intro h
    have h' : ((s.data.toList.drop k).headD 0).toNat < 192 := by rw [byte_drop s k hk]; omega
    refine ⟨?_, ?_⟩
    · unfold Like.num; rw [if_pos h']
    · unfold Like.chr; rw [if_pos h', byte_drop s k hk]
  · intro h hlt
    have h' : ¬ ((s.data.toList.drop k).headD 0).toNat < 192 := by rw [byte_drop s k hk]; omega
    have := Like.num_stop (s.data.toList.drop k) h' (by omega)
    rw [List.getElem_drop] at this
    exact this

set_option maxHeartbeats 400000 in
theorem bytes17 (s : ByteArray) (w : World) (hs : s.size ≤ maxLen) :
    Calls Try.prog 17 #[.string s] w fun e w' => e = .returned (.bool (decide ((s.size : Int) ≤ 1048576))) ∧ w' = w := by
  unfold maxLen at hs
  by_cases h : (s.size : Int) ≤ 1048576
  · rw [decide_eq_true h]
    go_enter Try.func17, Try.ntmps17
    go_wp2
    go_ret
    exact ⟨rfl, rfl⟩
  · rw [decide_eq_false h]
    have h' : 1048576 < (s.size : Int) := by omega
    go_enter Try.func17, Try.ntmps17
    go_wp2
    go_ret
    exact ⟨rfl, rfl⟩

/-! ### STEP 1: THE WALK -/
set_option maxHeartbeats 1000000 in
set_option maxRecDepth 10000 in
theorem walk (a0 : ByteArray) (w0 : a0.size ≤ maxLen) (w : World) :
    Calls Try.prog 5 #[.string a0] w fun e w' => e = .returned (.bool true) ∧ Grown w w' := by
  have W0 := w0
  unfold maxLen at w0
  by_cases hb : (a0.size : Int) ≤ 1048576
  · have H17 : Hid (∀ w, Calls Try.prog 17 #[.string a0] w fun e w' => e = .returned (.bool true) ∧ w' = w) := fun w => by
      have := bytes17 a0 w W0
      rw [decide_eq_true hb] at this
      exact this
    have HT := fun k (hk : k < a0.size) => tile_step a0 k W0 hk
    have HT' : Hid (∀ (k : Nat) (hk : k < a0.size), _) := HT
    clear HT W0
    go_enter Try.func5, Try.ntmps5
    go_wp2_with (go_at_call 17; refine (H17.out _).mono ?_; rintro e w' ⟨rfl, rfl⟩)
    go_loop [3] (fun i => ∃ k : Nat, k ≤ a0.size ∧ i = .int .i64 k) (fun i => a0.size - (intOf i).toNat)
    case atStart => exact ⟨0, Nat.zero_le _, rfl⟩
    case round =>
      obtain ⟨k, hk, rfl⟩ := hrel
      by_cases hlt : k < a0.size
      · obtain ⟨C, N, hN1, hN2, c1, c2, c3, c4⟩ := HT'.out k hlt
        have C12 : Hid (∀ b : Nat, (b = a0.size ∨ b = k + N) → ∀ w, Calls Try.prog 12 #[.string (a0.extract k b)] w fun e w' => e = .returned (.tuple #[.int .i32 C, .int .i64 N]) ∧ w' = w) := fun b hb => hb.elim (fun h => by rw [h]; exact c1) (fun h => by rw [h]; exact c2)
        clear c1 c2
        by_cases hlow : (a0[k].toNat : Int) < 192
        · obtain ⟨rfl, rfl⟩ := c3 hlow
          clear c3 c4
          go_wp2_with (go_at_call 12; refine (C12.out _ ?_ _).mono ?_; (first | exact Or.inl rfl | exact Or.inr rfl); rintro e w' ⟨rfl, rfl⟩)
          go_round
          case rel => exact ⟨k + 1, by omega, by go_num⟩
          case measure => simp [intOf]; omega
        · have hhigh : 192 ≤ (a0[k].toNat : Int) := by omega
          have c5 := c4 hhigh
          clear c3 c4
          by_cases hend : k + N < a0.size
          · have C18 : Hid (∀ w, Calls Try.prog 18 #[.int .u8 (a0[k + N].toNat : Int)] w fun e w' => e = .returned (.bool false) ∧ w' = w) := fun w => by
              have := isCont_any a0[k + N] w
              rw [c5 hend] at this
              exact this
            clear c5
            go_wp2_with (first | (go_at_call 12; refine (C12.out _ ?_ _).mono ?_; (first | exact Or.inl rfl | exact Or.inr rfl); rintro e w' ⟨rfl, rfl⟩) | (go_at_call 18; refine (C18.out _).mono ?_; rintro e w' ⟨rfl, rfl⟩))
            go_round
            case rel => exact ⟨k + N, by omega, by go_num⟩
            case measure => simp [intOf]; omega
          · clear c5
            go_wp2_with (go_at_call 12; refine (C12.out _ ?_ _).mono ?_; (first | exact Or.inl rfl | exact Or.inr rfl); rintro e w' ⟨rfl, rfl⟩)
            go_round
            case rel => exact ⟨k + N, by omega, by go_num⟩
            case measure => simp [intOf]; omega
      · go_wp2
        go_ret
        exact ⟨rfl, Grown.refl _⟩
  · have H17 : Hid (∀ w, Calls Try.prog 17 #[.string a0] w fun e w' => e = .returned (.bool false) ∧ w' = w) := fun w => by
      have := bytes17 a0 w W0
      rw [decide_eq_false hb] at this
      exact this
    clear W0
    go_enter Try.func5, Try.ntmps5
    go_wp2_with (go_at_call 17; refine (H17.out _).mono ?_; rintro e w' ⟨rfl, rfl⟩)
    go_ret
    exact ⟨rfl, Grown.refl _⟩

/-! ### THE ROW's STEP: WRITTEN OUT: LEAVE IT -/
set_option maxRecDepth 100000 in
theorem lifted (os : Os) (started : os.Started) (H : Type) (enc : TypeId × Value → H) :
    ReturnsInHanded {} Try.checked os 5 .any (Rows.fnLikeCharStepsTileTextSpec.pre6 enc Try.prog Try.f5 Rows.fnLikeCharStepsTileTextRow.domain false) (Rows.fnLikeCharStepsTileTextSpec.post enc Try.prog Try.f5 false true false false) := by
  refine returnsInHanded_of_change (C := Try.checked) own started (by kernel_rfl) Try.func5
    (ChangeSpec.witness6 (enc := enc) (C := Try.checked) false ⟨#[], #[.string ByteArray.empty], []⟩ 8 (by kernel_rfl) (by kernel_rfl) (by kernel_rfl) (by kernel_rfl)) ?_
  intro W base args ds gs before hval0 hW hcnd _
  have hval : ∀ (j : Nat) t v, Try.f5.params[j]? = some t → args[j]? = some v → Value.okWide Try.prog W .any base t v := hval0
  have hW' := hW
  obtain ⟨p, q, hA0, hV, rfl, hfz, hnd⟩ := hW
  have hA : DataW.TrodAll enc Try.prog W 0 (fun _ => true) true Try.f5.params.toList args.toList ds p := hA0
  rw [Try.params5] at hA hval
  obtain ⟨v0, vs0, d0, ds0, p0, q0, hargs, rfl, rfl, h0, r0⟩ := trodAll_cons hA
  obtain ⟨rfl, rfl, rfl⟩ := trodAll_nil r0
  obtain rfl : args = #[v0] := by cases args; simp_all
  obtain ⟨rfl, rfl⟩ := trodVars_none hV
  obtain ⟨a0, rfl, rfl, rfl, w0⟩ := open_string Try.underlying9 (hval 0 9 v0 rfl rfl) h0
  clear hA0 hval0
  simp only [List.append_nil] at hW'
  refine (walk a0 w0 W).mono fun e W' ⟨he, hg⟩ => ?_
  subst he
  exact ⟨_, rfl, post_of_same (pa := []) (pv := []) hW' (fun _ _ _ => (trodAll_cons_mk (shut_bool Try.underlying4 _) trodAll_mk0)) (fun sp _ => (trodAll_cons_mk (shut_string Try.underlying9 w0) trodAll_mk0)) (fun _ _ => rfl) rfl
    (hg.frame _) hg.2.1 (ok_one (by kernel_rfl) rfl (okWide_bool_mk Try.underlying4 _))⟩

theorem over : Rows.fnLikeCharStepsTileTextRow.holds Try.pinned (OpenSpec.ofChange Rows.fnLikeCharStepsTileTextSpec) :=
  OpenClaim.holds_of_wide 5 Try.f5 rfl rfl rfl rfl rfl rfl rfl ⟨rfl, rfl, rfl, rfl, rfl⟩ rfl rfl rfl rfl rfl (by kernel_rfl) Try.func5 (by kernel_rfl)
    (of_decide_eq_true (by kernel_rfl)) (by unfold Func.isWrapper; first | (rw [if_pos (by decide +kernel)]; kernel_rfl) | (rw [if_neg (by decide +kernel)]; exact ⟨rfl, rfl⟩))
    (fun os started H enc _ => lifted os started H enc)

/-- ████ THE STATEMENT ████ -/
theorem proved : Rows.FnLikeCharStepsTileTextSaid :=
  over
#print axioms proved
end Go.Proofs.Qxb6604200a.fnLikeCharStepsTileText
