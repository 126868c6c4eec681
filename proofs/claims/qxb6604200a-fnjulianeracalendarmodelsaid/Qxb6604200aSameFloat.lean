/-
  zzSameFloat: a float is the same as itself.
-/
import Derived.Test.Qxb6604200aRows
import Derived.WalkKit
import Derived.WalkSpells
import Derived.WalkLawsBesides
import Derived.Test.Qxb6604200aFloatPlain
namespace Go.Proofs.Qxb6604200a
open Go.RowKit Ieee

theorem order_self (b : Nat) : Ieee.double.order b b = none ∨ Ieee.double.order b b = some .eq := by
  unfold Format.order
  cases h : Ieee.double.read b with
  | number s m i => right; simp [Datum.order]
  | infinity s => right; simp [Datum.order]
  | nan s f => left; rfl

theorem order_zero (b : Nat) (h : Ieee.double.order b 0 = some .eq) : ∃ r, floatBits .quo .f64 4607182418800017408 b = some r := by
  have h0 : Ieee.double.read 0 = .number false 0 (-1074) := by decide
  have h1 : Ieee.double.read 4607182418800017408 = .number false 4503599627370496 (-52) := by decide
  unfold Format.order at h
  show ∃ r, Ieee.double.div 4607182418800017408 b = some r
  unfold Format.div
  rw [h0] at h
  rw [h1]
  cases hb : Ieee.double.read b with
  | number s m i =>
    by_cases hm : m = 0
    · simp [Datum.quotient, hm]
    · simp [Datum.quotient, hm]
  | infinity s => exact ⟨_, rfl⟩
  | nan s f => rw [hb] at h; cases h

set_option maxHeartbeats 1000000 in
set_option maxRecDepth 10000 in
theorem sameFloat_any (b : Nat) (w : World) :
    Calls Try.prog 32 #[.float .f64 b, .float .f64 b] w fun e w' => e = .returned (.bool true) ∧ w = w' := by
  rcases order_self b with h | h
  · have q : (FloatKind.f64.format.order b b != some .eq) = true := by
      show (Ieee.double.order b b != some .eq) = true
      rw [h]; rfl
    go_enter Try.func32, Try.ntmps32
    go_wp2
    go_ret
    exact ⟨rfl, rfl⟩
  · have q : (FloatKind.f64.format.order b b != some .eq) = false := by
      show (Ieee.double.order b b != some .eq) = false
      rw [h]; rfl
    by_cases hz : Ieee.double.order b 0 = some .eq
    · have q0 : (FloatKind.f64.format.order b 0 == some .eq) = true := by
        show (Ieee.double.order b 0 == some .eq) = true
        rw [hz]; rfl
      obtain ⟨r, hr⟩ := order_zero b hz
      have hrun := fun w => run_float_arith (P := Try.prog) w .quo 28 .f64 4607182418800017408 b r hr
      have qr : ((FloatKind.f64.format.order r 0 == some .gt) == (FloatKind.f64.format.order r 0 == some .gt)) = true := by simp
      clear h hz hr
      go_enter Try.func32, Try.ntmps32
      go_wp2
      go_ret
      exact ⟨by simp, rfl⟩
    · have q0 : (FloatKind.f64.format.order b 0 == some .eq) = false := by
        show (Ieee.double.order b 0 == some .eq) = false
        rw [beq_eq_false_iff_ne]; exact hz
      clear h hz
      go_enter Try.func32, Try.ntmps32
      go_wp2
      go_ret
      exact ⟨rfl, rfl⟩

end Go.Proofs.Qxb6604200a
