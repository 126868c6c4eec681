/-
  The walks of likeChar and of what stands round it.
-/
import Derived.Test.Qxb6604200aRows
import Derived.WalkKit
import Derived.WalkSpells
import Derived.WalkLawsBesides
import Derived.Test.Qxb6604200aLikePlain
namespace Go.Proofs.Qxb6604200a
open Go.RowKit

set_option maxHeartbeats 400000 in
theorem likeChar_low (s : ByteArray) (w : World) (h0 : 0 < s.size) (hl : (s[0].toNat : Int) < 192) :
    Calls Try.prog 28 #[.string s] w fun e w' => e = .returned (.tuple #[.int .i32 s[0].toNat, .int .i64 1]) ∧ w' = w := by
  go_enter Try.func28, Try.ntmps28
  go_wp2
  go_ret2
  exact ⟨rfl, rfl⟩

theorem pair_ret {a b c d : Int} (h : a = b) (h' : c = d) : Ending.returned (.tuple #[.int .i32 a, .int .i64 c]) = .returned (.tuple #[.int .i32 b, .int .i64 d]) := by rw [h, h']

theorem at_byte {s : ByteArray} {u0 k v : Nat} (a : Like.At s.data.toList u0 k v) (h : k < s.size) (hc : (bits .and .u8 (s[k].toNat : Int) 192 == 128) = true) : Like.At s.data.toList u0 (k + 1) (Like.step v s[k]) :=
  a.next (h := h) (by rw [Like.and192] at hc; exact hc)

theorem at_fin {s : ByteArray} {u0 k v : Nat} (a : Like.At s.data.toList u0 k v) (h : k < s.size) (hc : (bits .and .u8 (s[k].toNat : Int) 192 == 128) = false) : v = (Like.run s.data.toList).foldl Like.step u0 ∧ k = 1 + (Like.run s.data.toList).length :=
  a.fin (fun _ => by rw [Like.and192] at hc; exact hc)

theorem at_out {s : ByteArray} {u0 k v : Nat} (a : Like.At s.data.toList u0 k v) (h : ¬ k < s.size) : v = (Like.run s.data.toList).foldl Like.step u0 ∧ k = 1 + (Like.run s.data.toList).length :=
  a.fin (fun h' => absurd h' h)

theorem close {s : ByteArray} {u0 k v : Nat} {r : Int} (hf : v = (Like.run s.data.toList).foldl Like.step u0 ∧ k = 1 + (Like.run s.data.toList).length) (hr : Like.asRune (Like.fix v) = r) :
    Ending.returned (.tuple #[.int .i32 r, .int .i64 (k : Int)]) = .returned (.tuple #[.int .i32 (Like.asRune (Like.fix ((Like.run s.data.toList).foldl Like.step u0))), .int .i64 (1 + ((Like.run s.data.toList).length : Int))]) :=
  pair_ret (by rw [← hf.1]; exact hr.symm) (by rw [hf.2]; omega)

theorem wrap_rune (v : Nat) (hv : v < 4294967296) : Like.asRune v = wrap32 v := by
  unfold Like.asRune wrap32
  split <;> omega

theorem lead_val {b : Nat} {m : Int} (h : m = (Like.leadBits b : Nat)) : Value.int .u32 m = .int .u32 ((Like.leadBits b : Nat) : Int) := by rw [h]

set_option maxHeartbeats 1000000 in
set_option maxRecDepth 10000 in
theorem likeChar_high (s : ByteArray) (w : World) (hs : s.size ≤ maxLen) (h0 : 0 < s.size) (hl : 192 ≤ (s[0].toNat : Int)) :
    Calls Try.prog 28 #[.string s] w fun e w' => e = .returned (.tuple #[.int .i32 (Like.asRune (Like.fix ((Like.run s.data.toList).foldl Like.step (Like.leadBits s[0].toNat)))), .int .i64 ((1 + (Like.run s.data.toList).length : Nat) : Int)]) ∧ w' = w := by
  unfold maxLen at hs
  have HS : Hid (Like.At s.data.toList (Like.leadBits s[0].toNat) 1 (Like.leadBits s[0].toNat)) := Like.At.start s.data.toList _ h0
  go_enter Try.func28, Try.ntmps28
  go_wp2
  all_goals
    go_loop [5, 3] (fun u n => ∃ k v : Nat, k ≤ s.size ∧ v < 4294967296 ∧ n = .int .i64 k ∧ u = .int .u32 v ∧ Like.At s.data.toList (Like.leadBits s[0].toNat) k v) (fun _ n => s.size - (intOf n).toNat)
    case atStart => exact ⟨1, Like.leadBits s[0].toNat, h0, Like.lead_lt _, rfl, lead_val (by have := Like.lb s[0].toNat; have := Like.m1 s[0]; have := Like.m3 s[0]; omega), HS.out⟩
    case round =>
      obtain ⟨k, v, hk, hv, rfl, rfl, hat⟩ := hrel
      have HA : Hid (Like.At s.data.toList (Like.leadBits s[0].toNat) k v) := hat
      clear hat
      by_cases hlt : k < s.size
      · go_wp2
        · go_round
          case rel => exact ⟨k + 1, _, by omega, Like.step_lt v s[k], by go_num, by rw [Like.or_step], at_byte HA.out hlt (by assumption)⟩
          case measure => simp [intOf]; omega
        all_goals go_ret2
        · exact ⟨close (at_fin HA.out hlt ‹_›) (Like.fix_sur v hv ‹_›), rfl⟩
        · exact ⟨close (at_fin HA.out hlt ‹_›) (Like.fix_any v hv ‹_›), rfl⟩
        · exact ⟨close (at_fin HA.out hlt ‹_›) ((Like.fix_not v hv ‹_›).trans (wrap_rune v hv)), rfl⟩
        · exact ⟨close (at_fin HA.out hlt ‹_›) (Like.fix_low v (by omega)), rfl⟩
      · go_wp2
        all_goals go_ret2
        · exact ⟨close (at_out HA.out hlt) (Like.fix_sur v hv ‹_›), rfl⟩
        · exact ⟨close (at_out HA.out hlt) (Like.fix_any v hv ‹_›), rfl⟩
        · exact ⟨close (at_out HA.out hlt) ((Like.fix_not v hv ‹_›).trans (wrap_rune v hv)), rfl⟩
        · exact ⟨close (at_out HA.out hlt) (Like.fix_low v (by omega)), rfl⟩

theorem headD_byte (s : ByteArray) (h0 : 0 < s.size) : s.data.toList.headD 0 = s[0] := by
  have e : s.data.toList = s[0] :: s.data.toList.tail := by
    have h : s.data.toList.length = s.size := rfl
    cases hd : s.data.toList with
    | nil => rw [hd] at h; simp at h; omega
    | cons a t =>
      have : s[0] = s.data.toList[0]'(by rw [h]; exact h0) := rfl
      rw [this]
      simp [hd]
  rw [e]; rfl

/-- likeChar: what it answers, at every text that is not empty -/
theorem likeChar_any (s : ByteArray) (w : World) (hs : s.size ≤ maxLen) (h0 : 0 < s.size) :
    Calls Try.prog 28 #[.string s] w fun e w' => e = .returned (.tuple #[.int .i32 (Like.chr s.data.toList), .int .i64 (Like.num s.data.toList : Nat)]) ∧ w' = w := by
  by_cases h : s[0].toNat < 192
  · refine (likeChar_low s w h0 (by omega)).mono ?_
    rintro e w' ⟨rfl, rfl⟩
    refine ⟨pair_ret ?_ ?_, rfl⟩
    · unfold Like.chr; rw [headD_byte s h0, if_pos h]
    · unfold Like.num; rw [headD_byte s h0, if_pos h]; rfl
  · refine (likeChar_high s w hs h0 (by omega)).mono ?_
    rintro e w' ⟨rfl, rfl⟩
    refine ⟨pair_ret ?_ ?_, rfl⟩
    · unfold Like.chr Like.raw; rw [headD_byte s h0, if_neg h]
    · unfold Like.num; rw [headD_byte s h0, if_neg h]

set_option maxHeartbeats 400000 in
theorem zzLikeChar_any (s : ByteArray) (w : World) (hs : s.size ≤ maxLen) (h0 : 0 < s.size) :
    Calls Try.prog 12 #[.string s] w fun e w' => e = .returned (.tuple #[.int .i32 (Like.chr s.data.toList), .int .i64 (Like.num s.data.toList : Nat)]) ∧ w' = w := by
  go_enter Try.func12, Try.ntmps12
  go_wp2_with (go_at_call 28; refine (likeChar_any _ _ hs h0).mono ?_; rintro e w' ⟨rfl, rfl⟩)
  go_ret2
  exact ⟨rfl, rfl⟩

set_option maxHeartbeats 400000 in
theorem isCont_any (c : UInt8) (w : World) :
    Calls Try.prog 18 #[.int .u8 (c.toNat : Int)] w fun e w' => e = .returned (.bool (Like.cont c)) ∧ w' = w := by
  by_cases h1 : 128 ≤ (c.toNat : Int)
  · by_cases h2 : (c.toNat : Int) ≤ 191
    · have e : Like.cont c = true := by unfold Like.cont; simp; omega
      rw [e]
      go_enter Try.func18, Try.ntmps18
      go_wp2
      go_ret
      exact ⟨rfl, rfl⟩
    · have e : Like.cont c = false := by unfold Like.cont; simp; omega
      have h2' : 191 < (c.toNat : Int) := by omega
      rw [e]
      go_enter Try.func18, Try.ntmps18
      go_wp2
      go_ret
      exact ⟨rfl, rfl⟩
  · have e : Like.cont c = false := by unfold Like.cont; simp; omega
    rw [e]
    go_enter Try.func18, Try.ntmps18
    go_wp2
    go_ret
    exact ⟨rfl, rfl⟩
end Go.Proofs.Qxb6604200a
