/-
  The walk of zzLikeModel: it answers as likeChar does.
-/
import Derived.Test.Qxb6604200aLikeWalk
import Derived.Test.Qxb6604200aLikeModelPlain
import Derived.Deep.DeepCutAuto
import Derived.Deep.CutBlock
namespace Go.Proofs.Qxb6604200a
open Go.RowKit

theorem val_u32 {a b : Int} (h : a = b) : Value.int .u32 a = .int .u32 b := by rw [h]

def Bad (v : Nat) : Prop := v < 128 ∨ (55296 ≤ v ∧ v ≤ 57343) ∨ v = 65534 ∨ v = 65535
theorem bad_fix {v : Nat} (h : Bad v) : (65533 : Int) = Like.asRune (Like.fix v) := by
  have : Like.bad v = true := by unfold Bad at h; simp [Like.bad]; omega
  simp [Like.fix, this, Like.asRune]
theorem good_fix {v : Nat} (hv : v < 4294967296) (h : ¬ Bad v) : wrap32 v = Like.asRune (Like.fix v) := by
  have : Like.bad v = false := by unfold Bad at h; simp [Like.bad]; omega
  simp only [Like.fix, this]
  exact (wrap_rune v hv).symm
theorem good_small {v : Nat} (h1 : (v : Int) < 55296) (h : ¬ Bad v) : (v : Int) = Like.asRune (Like.fix v) := by
  rw [← good_fix (by omega) h]; unfold wrap32; omega
theorem bad2 {v : Nat} (h1 : 55296 ≤ (v : Int)) (h : (((v : Int) < 128 ∨ (v : Int) ≤ 57343) ∨ ((v : Int) == 65534) = true) ∨ ((v : Int) == 65535) = true) : Bad v := by
  simp at h; unfold Bad; omega
theorem bad5 {v : Nat} (h : ((v : Int) < 128 ∨ ((v : Int) == 65534) = true) ∨ ((v : Int) == 65535) = true) : Bad v := by
  simp at h; unfold Bad; omega
theorem good3 {v : Nat} (h : ((128 ≤ (v : Int) ∧ 57343 < (v : Int)) ∧ ((v : Int) == 65534) = false) ∧ ((v : Int) == 65535) = false) : ¬ Bad v := by
  simp at h; unfold Bad; omega
theorem good6 {v : Nat} (h1 : (v : Int) < 55296) (h : (128 ≤ (v : Int) ∧ ((v : Int) == 65534) = false) ∧ ((v : Int) == 65535) = false) : ¬ Bad v := by
  simp at h; unfold Bad; omega

set_option maxHeartbeats 1000000 in
set_option maxRecDepth 10000 in
theorem likeModel_core (s : ByteArray) (w : World) (hs : s.size ≤ 1048576) (h0 : 0 < s.size) (hl : 192 ≤ (s[0].toNat : Int)) (E : Nat) (hE1 : 1 ≤ E) (hE : E ≤ s.size)
   (hin : ∀ k, 1 ≤ k → k < E → ∀ w, ∀ h : k < s.size, Calls Try.prog 18 #[.int .u8 (s[k].toNat : Int)] w fun e w' => e = .returned (.bool true) ∧ w' = w)
   (hr : Like.run s.data.toList = (s.data.toList.take E).tail)
   (hout : ∀ h : E < s.size, ∀ w, Calls Try.prog 18 #[.int .u8 (s[E].toNat : Int)] w fun e w' => e = .returned (.bool false) ∧ w' = w) :
    Calls Try.prog 13 #[.string s] w fun e w' => e = .returned (.tuple #[.int .i32 (Like.asRune (Like.fix (Like.raw s.data.toList))), .int .i64 E]) ∧ w' = w := by
  have HI : Hid (∀ k, 1 ≤ k → k < E → ∀ w, ∀ h : k < s.size, Calls Try.prog 18 #[.int .u8 (s[k].toNat : Int)] w fun e w' => e = .returned (.bool true) ∧ w' = w) := hin
  have HO : Hid (∀ h : E < s.size, ∀ w, Calls Try.prog 18 #[.int .u8 (s[E].toNat : Int)] w fun e w' => e = .returned (.bool false) ∧ w' = w) := hout
  clear hin hout
  have hb2 : s[0].toNat < 256 := s[0].toNat_lt
  have HRaw : Hid (Like.raw s.data.toList = (Like.leadBits s[0].toNat * 64 ^ (E - 1) + Like.from' s.data.toList E 1) % 4294967296) := by
    have := Like.raw_from s.data.toList E hE1 hE hr
    rw [headD_byte s h0] at this
    exact this
  have HFar : Hid (7 ≤ E → Like.raw s.data.toList = Like.from' s.data.toList E 1) := fun h => Like.raw_far s.data.toList E 1 hE1 hE hr (by omega) (by omega)
  have HSix : Hid (∀ m, 1 ≤ m → 6 ≤ E - m → m ≤ E → Like.from' s.data.toList E 1 = Like.from' s.data.toList E m) := Like.from_six s.data.toList E hE
  have HSmall : Hid (∀ m, Like.from' s.data.toList E m < 64 ^ (E - m)) := fun m => Like.from_small s.data.toList E m hE
  have HCons : Hid (∀ m, m < E → ∀ h : m < s.size, Like.from' s.data.toList E m = (s[m].toNat % 64 * 64 ^ (E - 1 - m) + Like.from' s.data.toList E (m + 1)) % 4294967296) := fun m hm h => Like.from_cons s.data.toList E m hE hm h
  clear hr
  go_enter Try.func13, Try.ntmps13
  go_upto_block 0 with fail
  go_cut [5] (fun en wx => en = .int .i64 E ∧ wx = w)
  case first =>
    go_wp2_with fail
    go_loop [5, 6] (fun en i => en = .int .i64 s.size ∧ ∃ k : Nat, 1 ≤ k ∧ k ≤ E ∧ i = .int .i64 k) (fun _ i => s.size - (intOf i).toNat)
    case atStart => exact ⟨rfl, 1, by omega, by omega, rfl⟩
    case round =>
      obtain ⟨rfl, k, hk1, hk2, rfl⟩ := hrel
      by_cases hlt : k < E
      · have hlt2 : k < s.size := by omega
        go_wp2_with (go_at_call 18; refine (HI.out k hk1 hlt _ hlt2).mono ?_; rintro e w' ⟨rfl, rfl⟩)
        go_round
        case rel => exact ⟨rfl, k + 1, by omega, by omega, by go_num⟩
        case measure => simp [intOf]; omega
      · obtain rfl : E = k := by omega
        by_cases hEs : E < s.size
        · go_wp2_with (go_at_call 18; refine (HO.out hEs _).mono ?_; rintro e w' ⟨rfl, rfl⟩)
          go_meet
          case rel => exact ⟨rfl, rfl⟩
        · go_wp2
          go_meet
          case rel => exact ⟨by go_num, rfl⟩
  case rest =>
    obtain ⟨rfl, rfl⟩ := hcut
    go_upto_block 2 with fail
    go_cut [7] (fun o wx => (∃ j : Nat, j ≤ 8 ∧ o = .int .i64 j ∧ Like.Ones s[0].toNat j ∧ Hid (j < 8 → (bits .and .u8 ((s[0].toNat : Int) * 2 ^ j % 256) 128 != 0) = false)) ∧ wx = wc)
    case first =>
      go_wp2_with fail
      go_loop [7] (fun o => ∃ j : Nat, j ≤ 8 ∧ o = .int .i64 j ∧ Like.Ones s[0].toNat j) (fun o => 8 - (intOf o).toNat)
      case atStart => exact ⟨0, by omega, rfl, Like.Ones.zero _⟩
      case round =>
        obtain ⟨j, hj, rfl, ho⟩ := hrel
        by_cases hj8 : j < 8
        · go_wp2_with fail
          · go_round
            case rel => exact ⟨j + 1, by omega, by go_num, ho.next ‹_›⟩
            case measure => simp [intOf]; omega
          · go_meet
            case rel => exact ⟨⟨j, hj, rfl, ho, fun _ => ‹_›⟩, rfl⟩
        · go_wp2_with fail
          go_meet
          case rel => exact ⟨⟨j, hj, rfl, ho, fun h => absurd h hj8⟩, rfl⟩
    case rest =>
      obtain ⟨⟨j, hj, rfl, ho, hjt⟩, rfl⟩ := hcut
      go_upto_if 46 with fail
      go_cut [8] (fun p wx => p = .int .u32 ((Like.leadBits s[0].toNat : Nat) : Int) ∧ wx = wc)
      case first =>
        by_cases hj7 : j < 7
        · go_wp2_with fail
          go_meet
          case rel => exact ⟨val_u32 (ho.pay' (by omega) hb2 hj7 (hjt.out (by omega))), rfl⟩
        · go_wp2_with fail
          go_meet
          case rel => exact ⟨val_u32 (by rw [ho.none (by omega) hb2 (by omega)]; rfl), rfl⟩
      case rest =>
        obtain ⟨rfl, rfl⟩ := hcut
        clear ho hjt
        have hp := Like.lead_lt s[0].toNat
        obtain ⟨p, HP⟩ : ∃ p, Hid (Like.leadBits s[0].toNat = p) := ⟨_, (rfl : Like.leadBits s[0].toNat = _)⟩
        rw [HP.out] at HRaw hp ⊢
        go_upto_block 4 with fail
        go_cut [9] (fun u wx => u = .int .u32 ((Like.from' s.data.toList E 1 : Nat) : Int) ∧ wx = wc)
        case first =>
          go_wp2_with fail
          go_loop [9, 10] (fun u i => ∃ m v : Nat, m < E ∧ (E ≤ m + 7 ∨ m = 0) ∧ v < 4294967296 ∧ i = .int .i64 m ∧ u = .int .u32 v ∧ Hid (v = Like.from' s.data.toList E (m + 1))) (fun _ i => (intOf i).toNat)
          case atStart => exact ⟨E - 1, 0, by omega, by omega, by omega, by go_num, rfl, (by rw [show E - 1 + 1 = E by omega, Like.from_end] : (0 = Like.from' s.data.toList E (E - 1 + 1)))⟩
          case round =>
            obtain ⟨m, v, hm, hm7, hv, rfl, rfl, hvm⟩ := hrel
            have hms : m < s.size := by omega
            by_cases hm0 : m = 0
            · subst hm0
              go_wp2_with fail
              go_meet
              case rel => exact ⟨val_u32 (by rw [hvm.out]), rfl⟩
            · have hm1 : 1 ≤ m := by omega
              by_cases h6 : E - 1 - m ≤ 5
              · go_wp2_with fail
                go_round
                case rel =>
                  have hsm := HSmall.out (m + 1)
                  rw [← hvm.out, show E - (m + 1) = E - 1 - m by omega] at hsm
                  have hc := HCons.out m hm hms
                  rw [← hvm.out] at hc
                  exact ⟨m - 1, _, by omega, by omega, Nat.mod_lt _ (by decide), by go_num, val_u32 (Like.or_byte s[m] v (E - 1 - m) h6 hsm hv), (by rw [show m - 1 + 1 = m by omega]; exact hc.symm : _ = Like.from' s.data.toList E (m - 1 + 1))⟩
                case measure => simp [intOf]; omega
              · go_wp2_with fail
                go_meet
                case rel => exact ⟨val_u32 (by rw [hvm.out, HSix.out (m + 1) (by omega) (by omega) (by omega)]), rfl⟩
        case rest =>
          obtain ⟨rfl, rfl⟩ := hcut
          go_upto_if 82 with fail
          go_cut [9] (fun u wx => u = .int .u32 ((Like.raw s.data.toList : Nat) : Int) ∧ wx = wc)
          case first =>
            by_cases h6 : E - 1 ≤ 5
            · have hsm := HSmall.out 1
              have hlt := Like.from_lt s.data.toList E 1
              go_wp2_with fail
              go_meet
              case rel => exact ⟨val_u32 (by rw [HRaw.out, Like.or_lead p _ (E - 1) h6 hsm hlt]), rfl⟩
            · go_wp2_with fail
              go_meet
              case rel => exact ⟨val_u32 (by rw [HFar.out (by omega)]), rfl⟩
          case rest =>
            obtain ⟨rfl, rfl⟩ := hcut
            have hv : Like.raw s.data.toList < 4294967296 := by rw [HRaw.out]; exact Nat.mod_lt _ (by decide)
            clear HRaw HFar HSix HSmall HCons
            obtain ⟨v, HV⟩ : ∃ v, Hid (Like.raw s.data.toList = v) := ⟨_, (rfl : Like.raw s.data.toList = _)⟩
            rw [HV.out] at hv ⊢
            go_wp2
            all_goals go_ret2
            all_goals rw [HV.out]
            · exact ⟨pair_ret (bad_fix (by unfold Bad; omega)) rfl, rfl⟩
            · exact ⟨pair_ret (bad_fix (bad2 ‹_› ‹_›)) rfl, rfl⟩
            · exact ⟨pair_ret (good_fix hv (good3 ‹_›)) rfl, rfl⟩
            · exact ⟨pair_ret (bad_fix (by unfold Bad; omega)) rfl, rfl⟩
            · exact ⟨pair_ret (bad_fix (bad5 ‹_›)) rfl, rfl⟩
            · exact ⟨pair_ret (good_small ‹_› (good6 ‹_› ‹_›)) rfl, rfl⟩
            · exact ⟨pair_ret (bad_fix (by unfold Bad; omega)) rfl, rfl⟩

set_option maxHeartbeats 400000 in
theorem likeModel_low (s : ByteArray) (w : World) (h0 : 0 < s.size) (hl : (s[0].toNat : Int) < 192) :
    Calls Try.prog 13 #[.string s] w fun e w' => e = .returned (.tuple #[.int .i32 s[0].toNat, .int .i64 1]) ∧ w' = w := by
  go_enter Try.func13, Try.ntmps13
  go_wp2
  go_ret2
  exact ⟨rfl, rfl⟩

/-- zzLikeModel answers as likeChar does -/
theorem likeModel_any (s : ByteArray) (w : World) (hs : s.size ≤ 1048576) (h0 : 0 < s.size) :
    Calls Try.prog 13 #[.string s] w fun e w' => e = .returned (.tuple #[.int .i32 (Like.chr s.data.toList), .int .i64 (Like.num s.data.toList : Nat)]) ∧ w' = w := by
  by_cases h : s[0].toNat < 192
  · refine (likeModel_low s w h0 (by omega)).mono ?_
    rintro e w' ⟨rfl, rfl⟩
    refine ⟨pair_ret ?_ ?_, rfl⟩
    · unfold Like.chr; rw [headD_byte s h0, if_pos h]
    · unfold Like.num; rw [headD_byte s h0, if_pos h]; rfl
  · have hlen : s.data.toList.length = s.size := rfl
    have hn := Like.num_le s.data.toList (by omega)
    have en : Like.num s.data.toList = 1 + (Like.run s.data.toList).length := by unfold Like.num; rw [headD_byte s h0, if_neg h]
    have hr := Like.run_take_eq s.data.toList (by omega)
    refine (likeModel_core s w hs h0 (by omega) (1 + (Like.run s.data.toList).length) (by omega) (by omega) ?_ hr ?_).mono ?_
    · intro k h1 h2 w hk
      have := isCont_any s[k] w
      have hc : Like.cont s[k] = true := Like.run_in s.data.toList k h1 h2 hk
      rw [hc] at this
      exact this
    · intro hE w
      have := isCont_any s[1 + (Like.run s.data.toList).length] w
      have hc : Like.cont s[1 + (Like.run s.data.toList).length] = false := by
        have := Like.num_stop s.data.toList (by rw [headD_byte s h0]; exact h) (by omega)
        simp only [en] at this
        exact this
      rw [hc] at this
      exact this
    · rintro e w' ⟨rfl, rfl⟩
      refine ⟨pair_ret ?_ ?_, rfl⟩
      · unfold Like.chr; rw [headD_byte s h0, if_neg h]
      · rw [en]
end Go.Proofs.Qxb6604200a
