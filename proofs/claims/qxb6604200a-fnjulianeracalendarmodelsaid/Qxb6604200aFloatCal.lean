/-
  The float steps of julian and civil, as plain integers.
-/
import Derived.Test.Qxb6604200aFloatPlain
namespace Go.Proofs.Qxb6604200a.Flt
open Go Ieee

theorem c1867 : Ieee.double.read 4700770444448366592 = .number false (7468865 * 2 ^ 30) (-2 - (30 : Nat)) := by decide
theorem c36524 : Ieee.double.read 4675252668279554048 = .number false 5019854696349696 (-37) := by decide
theorem c122 : Ieee.double.read 4638292440600962662 = .number false (8592023664092774 * 2 ^ 0) (-46 - (0 : Nat)) := by decide
theorem c365 : Ieee.double.read 4645133162144333824 = .number false 6425545952722944 (-44) := by decide
theorem c1524 : Ieee.double.read 4654419637352529920 = .number false (3049 * 2 ^ 41) (-1 - (41 : Nat)) := by decide
theorem cday : Ieee.double.read 4725570615333879808 = .number false (86400000 * 2 ^ 26) (0 - (26 : Nat)) := by decide

/-- 'float64(z)', read back -/
theorem of_int (z : Int) (h0 : z ≠ 0) (h : z.natAbs < 9007199254740992) :
    Ieee.double.read (floatOfInt .f64 z) = .number (decide (z < 0)) (z.natAbs * 2 ^ (52 - z.natAbs.log2)) (0 - (52 - z.natAbs.log2 : Nat)) := by
  have := nearest_exact (decide (z < 0)) z.natAbs 0 0 (by omega) h (by omega) (by omega)
  rw [Nat.pow_zero, Nat.mul_one] at this
  exact this

theorem read_zero : Ieee.double.read (floatOfInt .f64 0) = .number false 0 (-1074) := by decide
theorem of_zero (a : Nat) (h : a = 1074) : Ieee.double.read (floatOfInt .f64 0) = .number false (0 * 2 ^ a) (0 - (a : Int)) := by
  rw [read_zero, Nat.zero_mul]; congr 1; omega

/-- ... in one form: its digits shifted by some a -/
theorem of_int_any (z : Int) (h : z.natAbs < 9007199254740992) :
    ∃ a : Nat, Ieee.double.read (floatOfInt .f64 z) = .number (decide (z < 0)) (z.natAbs * 2 ^ a) (0 - (a : Int)) := by
  by_cases h0 : z = 0
  · subst h0
    obtain ⟨a, ha⟩ : ∃ a : Nat, a = 1074 := ⟨_, rfl⟩
    exact ⟨a, of_zero a ha⟩
  · exact ⟨_, of_int z h0 h⟩

def sg (s : Bool) (v : Int) : Int := if s then -v else v

theorem signed_sg (s : Bool) (m u : Nat) : signed s m u = sg s (m * 2 ^ u : Nat) := by
  unfold signed sg; rw [Nat.shiftLeft_eq]

theorem sg_scale (s : Bool) (v B : Nat) : sg s (v * 2 ^ B : Nat) = sg s v * 2 ^ B := by
  unfold sg
  split <;> rw [Int.natCast_mul, Int.natCast_pow]
  · rw [Int.neg_mul]; rfl
  · rfl

/-- A DIFFERENCE, not yet rounded -/
theorem sub_num (x y : Nat) (s t : Bool) (c d a b g : Nat) (q : Int) (hx : Ieee.double.read x = .number s (c * 2 ^ a) (q + g - (a : Int))) (hy : Ieee.double.read y = .number t (d * 2 ^ b) (q - (b : Int)))
    (E : Int) (hE : E = sg s (c * 2 ^ g : Nat) + sg (!t) d) (h0 : E ≠ 0) :
    floatBits .sub .f64 x y = some (Ieee.double.nearest (decide (E < 0)) (E.natAbs * 2 ^ (q - min (q + g - (a : Int)) (q - (b : Int))).toNat) (q - (q - min (q + g - (a : Int)) (q - (b : Int))).toNat)) := by
  show Ieee.double.sub x y = _
  unfold Format.sub
  rw [hx, hy]
  unfold Datum.opposite Datum.sum
  simp only [Option.map_some, Format.write]
  obtain ⟨base, hb⟩ : ∃ base, base = min (q + g - (a : Int)) (q - (b : Int)) := ⟨_, rfl⟩
  obtain ⟨B, hB⟩ : ∃ B : Nat, B = (q - base).toNat := ⟨_, rfl⟩
  rw [← hb, ← hB]
  have e1 : signed s (c * 2 ^ a) (q + g - (a : Int) - base).toNat = sg s (c * 2 ^ g : Nat) * 2 ^ B := by
    rw [signed_sg, Nat.mul_assoc, ← Nat.pow_add, show a + (q + g - (a : Int) - base).toNat = g + B by omega, Nat.pow_add, ← Nat.mul_assoc, sg_scale]
  have e2 : signed (!t) (d * 2 ^ b) (q - (b : Int) - base).toNat = sg (!t) d * 2 ^ B := by
    rw [signed_sg, Nat.mul_assoc, ← Nat.pow_add, show b + (q - (b : Int) - base).toNat = B by omega, sg_scale]
  have e3 : signed s (c * 2 ^ a) (q + g - (a : Int) - base).toNat + signed (!t) (d * 2 ^ b) (q - (b : Int) - base).toNat = E * 2 ^ B := by
    rw [e1, e2, ← Int.add_mul, ← hE]
  have hp : (0 : Int) < 2 ^ B := Int.pow_pos (by decide)
  have hz : E * 2 ^ B ≠ 0 := Int.mul_ne_zero h0 (Int.ne_of_gt hp)
  rw [e3, if_neg hz]
  have hneg : decide (E * 2 ^ B < 0) = decide (E < 0) := by
    rw [decide_eq_decide]
    constructor
    · intro h
      refine Int.not_le.1 fun hle => ?_
      have := Int.mul_nonneg hle (Int.le_of_lt hp)
      omega
    · intro h
      exact Int.mul_neg_of_neg_of_pos h hp
  have hab : (E * 2 ^ B).natAbs = E.natAbs * 2 ^ B := by
    rw [Int.natAbs_mul, Int.natAbs_pow]; rfl
  rw [hneg, hab, show q - (B : Int) = base by omega]

/-- A DIFFERENCE THAT IS EXACT -/
theorem sub_exact (x y : Nat) (s t : Bool) (c d a b g : Nat) (q : Int) (hx : Ieee.double.read x = .number s (c * 2 ^ a) (q + g - (a : Int))) (hy : Ieee.double.read y = .number t (d * 2 ^ b) (q - (b : Int)))
    (E : Int) (hE : E = sg s (c * 2 ^ g : Nat) + sg (!t) d) (h0 : E ≠ 0) (hc : E.natAbs < 9007199254740992) (h1 : -900 ≤ q) (h2 : q ≤ 900) :
    ∃ r, floatBits .sub .f64 x y = some r ∧ Ieee.double.read r = .number (decide (E < 0)) (E.natAbs * 2 ^ (52 - E.natAbs.log2)) (q - (52 - E.natAbs.log2 : Nat)) :=
  ⟨_, sub_num x y s t c d a b g q hx hy E hE h0, nearest_exact _ _ _ _ (by omega) hc h1 h2⟩

theorem full (c : Nat) (h0 : c ≠ 0) (hc : c < 9007199254740992) : c.log2 ≤ 52 ∧ 4503599627370496 ≤ c * 2 ^ (52 - c.log2) ∧ c * 2 ^ (52 - c.log2) < 9007199254740992 := by
  have hlc : c.log2 < 53 := (Nat.log2_lt h0).2 (by simpa using hc)
  have hb := log2_bounds c h0
  refine ⟨by omega, ?_, ?_⟩
  · have : 2 ^ c.log2 * 2 ^ (52 - c.log2) ≤ c * 2 ^ (52 - c.log2) := Nat.mul_le_mul_right _ hb.1
    rw [← Nat.pow_add, show c.log2 + (52 - c.log2) = 52 by omega] at this
    exact this
  · have : c * 2 ^ (52 - c.log2) < 2 ^ (c.log2 + 1) * 2 ^ (52 - c.log2) := Nat.mul_lt_mul_of_pos_right hb.2 (Nat.two_pow_pos _)
    rw [← Nat.pow_add, show c.log2 + 1 + (52 - c.log2) = 53 by omega] at this
    exact this

theorem mul83 (G P : Nat) : G * (5019854696349696 * (281474976710656 * P)) = G * 146097 * P * 9671406556917033397649408 := by
  have e : 5019854696349696 * (281474976710656 * P) = 146097 * 9671406556917033397649408 * P := by omega
  rw [e, ← Nat.mul_assoc, ← Nat.mul_assoc, Nat.mul_right_comm]

/-- 'int((float64(z) - 1867216.25) / 36524.25)' -/
theorem civ_a (z : Int) (h0 : 0 ≤ z) (h1 : z ≤ 5373484) :
    ∃ r1 r2, floatBits .sub .f64 (floatOfInt .f64 z) 4700770444448366592 = some r1 ∧ floatBits .quo .f64 r1 4675252668279554048 = some r2 ∧
      floatToIntVal .f64 r2 .i64 = some ((4 * z - 7468865).tdiv 146097) := by
  obtain ⟨a, hx⟩ := of_int_any z (by omega)
  rw [decide_eq_false (by omega)] at hx
  obtain ⟨E, hE⟩ : ∃ E : Int, E = 4 * z - 7468865 := ⟨_, rfl⟩
  have hEs : E = sg false (z.natAbs * 2 ^ 2 : Nat) + sg (!false) (7468865 : Nat) := by
    unfold sg; simp; omega
  obtain ⟨r1, hr1, hread⟩ := sub_exact (floatOfInt .f64 z) 4700770444448366592 false false z.natAbs 7468865 a 30 2 (-2) (by rw [hx]; rfl) c1867 E hEs (by omega) (by omega) (by omega) (by omega)
  obtain ⟨c, hc⟩ : ∃ c, c = E.natAbs := ⟨_, rfl⟩
  rw [← hc] at hread
  have ⟨f1, f2, f3⟩ := full c (by omega) (by omega)
  obtain ⟨A, hA⟩ : ∃ A, A = 52 - c.log2 := ⟨_, rfl⟩
  rw [← hA] at hread f2 f3
  have hA28 : 28 ≤ A := by
    have : c.log2 < 24 := (Nat.log2_lt (by omega)).2 (by simp; omega)
    omega
  obtain ⟨A', hA'⟩ : ∃ A', A = A' + 28 := ⟨A - 28, by omega⟩
  have hdm := Nat.div_add_mod c 146097
  have hml := Nat.mod_lt c (show 0 < 146097 by decide)
  have hpA : 0 < 2 ^ A' := Nat.two_pow_pos A'
  have eT : 2 ^ (20 + A) = 281474976710656 * 2 ^ A' := by rw [hA', show 20 + (A' + 28) = 48 + A' by omega, Nat.pow_add]
  have eA : 2 ^ A = 268435456 * 2 ^ A' := by rw [hA', Nat.add_comm, Nat.pow_add]
  obtain ⟨r2, hr2, hv⟩ := quo_int r1 4675252668279554048 (decide (E < 0)) false (c * 2 ^ A) 5019854696349696 (-2 - (A : Int)) (-37) hread c36524 f2 f3 (by decide) (by decide)
    (20 + A) (c / 146097) (by omega) (by omega) (by omega)
    (by
      rw [eT, eA]
      generalize 2 ^ A' = P at *
      have e1 : c * (268435456 * P) * 36028797018963968 = c * P * 9671406556917033397649408 := by
        rw [← Nat.mul_assoc, Nat.mul_right_comm c 268435456 P]; omega
      have e2 : (c / 146097 + 1) * (5019854696349696 * (281474976710656 * P)) = ((c / 146097 + 1) * 146097) * P * 9671406556917033397649408 := by
        exact mul83 _ _
      rw [e1, e2]
      have : (c + 1) * P ≤ ((c / 146097 + 1) * 146097) * P := Nat.mul_le_mul_right _ (by omega)
      rw [Nat.add_mul, Nat.one_mul] at this
      omega)
    (by
      rw [eT, eA]
      generalize 2 ^ A' = P at *
      have e1 : c * (268435456 * P) * 36028797018963968 = c * P * 9671406556917033397649408 := by
        rw [← Nat.mul_assoc, Nat.mul_right_comm c 268435456 P]; omega
      have e2 : (c / 146097) * (5019854696349696 * (281474976710656 * P)) = ((c / 146097) * 146097) * P * 9671406556917033397649408 := by
        exact mul83 _ _
      rw [e1, e2]
      by_cases hz : c % 146097 = 0
      · right
        have : c = c / 146097 * 146097 := by omega
        rw [← this]
      · left
        have : (c / 146097 * 146097 + 1) * P ≤ c * P := Nat.mul_le_mul_right _ (by omega)
        rw [Nat.add_mul, Nat.one_mul] at this
        omega)
    (by omega)
  refine ⟨r1, r2, hr1, hr2, ?_⟩
  rw [hv]
  congr 1
  rw [← hE, Bool.xor_false]
  by_cases hn : E < 0
  · rw [decide_eq_true hn, if_pos rfl]
    have : E = -(c : Int) := by omega
    rw [this, Int.neg_tdiv, Int.tdiv_eq_ediv_of_nonneg (by omega)]; rfl
  · rw [decide_eq_false hn]
    have : E = (c : Int) := by omega
    rw [this, Int.tdiv_eq_ediv_of_nonneg (by omega)]; rfl

/-- 'int((float64(b) - 122.1) / 365.25)' -/
theorem civ_c (b : Int) (h0 : 1000 ≤ b) (h1 : b ≤ 6000000) :
    ∃ r1 r2, floatBits .sub .f64 (floatOfInt .f64 b) 4638292440600962662 = some r1 ∧ floatBits .quo .f64 r1 4645133162144333824 = some r2 ∧
      floatToIntVal .f64 r2 .i64 = some ((20 * b - 2442) / 7305) := by
  have hx := of_int b (by omega) (by omega)
  rw [decide_eq_false (by omega)] at hx
  have hlog : 6 ≤ b.natAbs.log2 := (Nat.le_log2 (by omega)).2 (by simp; omega)
  obtain ⟨a, ha⟩ : ∃ a, a = 52 - b.natAbs.log2 := ⟨_, rfl⟩
  rw [← ha] at hx
  obtain ⟨E, hE⟩ : ∃ E : Int, E = b * 70368744177664 - 8592023664092774 := ⟨_, rfl⟩
  have hEs : E = sg false (b.natAbs * 2 ^ 46 : Nat) + sg (!false) (8592023664092774 : Nat) := by
    unfold sg; simp; omega
  have hsub := sub_num (floatOfInt .f64 b) 4638292440600962662 false false b.natAbs 8592023664092774 a 0 46 (-46) (by rw [hx]; rfl) c122 E hEs (by omega)
  rw [show (-46 - min (-46 + ((46 : Nat) : Int) - (a : Int)) (-46 - ((0 : Nat) : Int))).toNat = 0 by omega, Nat.pow_zero, Nat.mul_one, decide_eq_false (by omega), show (-46 : Int) - ((0 : Nat) : Int) = -46 from rfl] at hsub
  obtain ⟨mag, hmag⟩ : ∃ mag, mag = E.natAbs := ⟨_, rfl⟩
  rw [← hmag] at hsub
  have g0 : mag ≠ 0 := by omega
  have lo : 55 ≤ mag.log2 := (Nat.le_log2 g0).2 (by simp; omega)
  have hi : mag.log2 < 69 := (Nat.log2_lt g0).2 (by simp; omega)
  obtain ⟨m, D, hread, m1, m2, d1, d2, c1, c2⟩ := nearest_round false mag (-46) (by omega) g0 (by omega) (by omega)
  have hpw : 2 ^ (mag.log2 - 52) ≤ 65536 := Nat.pow_le_pow_right (by omega) (show mag.log2 - 52 ≤ 16 by omega)
  have hD : D ≤ 17 := by omega
  have hD3 : 3 ≤ D := by omega
  -- F: the integer
  obtain ⟨F, hF⟩ : ∃ F : Nat, (F : Int) = (20 * b - 2442) / 7305 := ⟨((20 * b - 2442) / 7305).toNat, by omega⟩
  have hpD : 0 < 2 ^ D := Nat.two_pow_pos D
  have hD17 : 2 ^ D ≤ 131072 := Nat.pow_le_pow_right (by omega) hD
  have hpT : 2 ^ D * 2 ^ (57 - D) = 144115188075855872 := by
    rw [← Nat.pow_add, Nat.add_sub_cancel' (by omega)]
  obtain ⟨r2, hr2, hv⟩ := quo_int _ 4645133162144333824 false false m 6425545952722944 (-46 + (D : Int)) (-44) hread c365 m1 m2 (by decide) (by decide)
    (57 - D) F (by omega) (by omega) (by omega)
    (by
      refine Nat.lt_of_mul_lt_mul_right (a := 2 ^ D) ?_
      have e1 : (F + 1) * (6425545952722944 * 2 ^ (57 - D)) * 2 ^ D = (F + 1) * 6425545952722944 * 144115188075855872 := by
        rw [← hpT, Nat.mul_comm (2 ^ D), ← Nat.mul_assoc, ← Nat.mul_assoc]
      have e2 : (m * 36028797018963968 + 5 * 6425545952722944) * 2 ^ D = m * 2 ^ D * 36028797018963968 + 5 * 6425545952722944 * 2 ^ D := by
        rw [Nat.add_mul, Nat.mul_right_comm]
      rw [e1, e2]
      generalize m * 2 ^ D = X at *
      generalize 2 ^ D = P at *
      omega)
    (by
      left
      refine Nat.le_of_mul_le_mul_right (c := 2 ^ D) ?_ hpD
      have e1 : (F * (6425545952722944 * 2 ^ (57 - D)) + 5 * 6425545952722944) * 2 ^ D = F * 6425545952722944 * 144115188075855872 + 5 * 6425545952722944 * 2 ^ D := by
        rw [Nat.add_mul, ← hpT, Nat.mul_comm (2 ^ D), ← Nat.mul_assoc, ← Nat.mul_assoc]
      have e2 : m * 36028797018963968 * 2 ^ D = m * 2 ^ D * 36028797018963968 := by
        rw [Nat.mul_right_comm]
      rw [e1, e2]
      generalize m * 2 ^ D = X at *
      generalize 2 ^ D = P at *
      omega)
    (by omega)
  refine ⟨_, r2, hsub, hr2, ?_⟩
  rw [hv, ← hF]
  rfl

/-- 'int(float64(x) / 30.6001)', at each number that comes -/
def eOk (x : Nat) : Bool := (floatBits .quo .f64 (floatOfInt .f64 x) 4629306380116972641).bind (fun r => floatToIntVal .f64 r .i64) == some ((x * 10000 / 306001 : Nat) : Int)
theorem eOk_all : ∀ x, x < 500 → eOk x = true := by decide +kernel

theorem civ_e (x : Int) (h0 : 0 ≤ x) (h1 : x < 500) :
    ∃ r, floatBits .quo .f64 (floatOfInt .f64 x) 4629306380116972641 = some r ∧ floatToIntVal .f64 r .i64 = some (x * 10000 / 306001) := by
  obtain ⟨n, rfl⟩ := Int.eq_ofNat_of_zero_le h0
  have h := eOk_all n (by omega)
  unfold eOk at h
  rw [beq_iff_eq] at h
  cases hq : floatBits .quo .f64 (floatOfInt .f64 (n : Int)) 4629306380116972641 with
  | none => rw [hq] at h; cases h
  | some r => rw [hq] at h; exact ⟨r, rfl, h⟩

/-- 'int(30.6001 * float64(e))' -/
def mOk (x : Nat) : Bool := (floatBits .mul .f64 4629306380116972641 (floatOfInt .f64 x)).bind (fun r => floatToIntVal .f64 r .i64) == some ((306001 * x / 10000 : Nat) : Int)
theorem mOk_all : ∀ x, x < 20 → mOk x = true := by decide +kernel

theorem civ_m (x : Int) (h0 : 0 ≤ x) (h1 : x < 20) :
    ∃ r, floatBits .mul .f64 4629306380116972641 (floatOfInt .f64 x) = some r ∧ floatToIntVal .f64 r .i64 = some (306001 * x / 10000) := by
  obtain ⟨n, rfl⟩ := Int.eq_ofNat_of_zero_le h0
  have h := mOk_all n (by omega)
  unfold mOk at h
  rw [beq_iff_eq] at h
  cases hq : floatBits .mul .f64 4629306380116972641 (floatOfInt .f64 (n : Int)) with
  | none => rw [hq] at h; cases h
  | some r => rw [hq] at h; exact ⟨r, rfl, h⟩

/-- A PRODUCT THAT IS EXACT -/
theorem mul_exact (x y : Nat) (s t : Bool) (c d a b : Nat) (p q : Int) (hx : Ieee.double.read x = .number s (c * 2 ^ a) (p - (a : Int))) (hy : Ieee.double.read y = .number t (d * 2 ^ b) (q - (b : Int)))
    (h0 : c * d ≠ 0) (hc : c * d < 9007199254740992) (h1 : -900 ≤ p + q) (h2 : p + q ≤ 900) :
    ∃ r, floatBits .mul .f64 x y = some r ∧ Ieee.double.read r = .number (s ^^ t) (c * d * 2 ^ (52 - (c * d).log2)) (p + q - (52 - (c * d).log2 : Nat)) := by
  refine ⟨_, ?_, nearest_exact (s ^^ t) (c * d) (a + b) (p + q) h0 hc h1 h2⟩
  show Ieee.double.mul x y = _
  unfold Format.mul
  rw [hx, hy]
  unfold Datum.product
  simp only [Option.map_some, Format.write]
  congr 2
  · rw [Nat.pow_add, Nat.mul_assoc, Nat.mul_assoc, ← Nat.mul_assoc (2 ^ a), Nat.mul_comm (2 ^ a) d, Nat.mul_assoc d]
  · omega

/-- '(float64(days) - 1524.5) * 86400000', cut to an integer -/
theorem jul_ms (d : Int) (h0 : -30000000 ≤ d) (h1 : d ≤ 30000000) :
    ∃ r1 r2, floatBits .sub .f64 (floatOfInt .f64 d) 4654419637352529920 = some r1 ∧ floatBits .mul .f64 r1 4725570615333879808 = some r2 ∧
      floatToIntVal .f64 r2 .i64 = some ((2 * d - 3049) * 43200000) := by
  obtain ⟨a, hx⟩ := of_int_any d (by omega)
  obtain ⟨E, hE⟩ : ∃ E : Int, E = 2 * d - 3049 := ⟨_, rfl⟩
  have hEs : E = sg (decide (d < 0)) (d.natAbs * 2 ^ 1 : Nat) + sg (!false) (3049 : Nat) := by
    unfold sg
    by_cases h : d < 0
    · simp [h]; omega
    · simp [h]; omega
  obtain ⟨r1, hr1, hread⟩ := sub_exact (floatOfInt .f64 d) 4654419637352529920 (decide (d < 0)) false d.natAbs 3049 a 41 1 (-1) (by rw [hx]; rfl) c1524 E hEs (by omega) (by omega) (by omega) (by omega)
  obtain ⟨r2, hr2, hread2⟩ := mul_exact r1 4725570615333879808 _ _ E.natAbs 86400000 _ 26 (-1) 0 hread cday (by omega) (by omega) (by omega) (by omega)
  refine ⟨r1, r2, hr1, hr2, ?_⟩
  have ⟨f1, _, _⟩ := full (E.natAbs * 86400000) (by omega) (by omega)
  obtain ⟨A, hA⟩ : ∃ A, A = 52 - (E.natAbs * 86400000).log2 := ⟨_, rfl⟩
  rw [← hA] at hread2
  unfold floatToIntVal
  have hdec : FloatKind.f64.decode r2 = .number (decide (E < 0) ^^ false) (E.natAbs * 86400000 * 2 ^ A) (-1 + 0 - (A : Int)) := hread2
  rw [hdec, toInt_small _ _ _ (by omega), show (-(-1 + 0 - (A : Int))).toNat = A + 1 by omega, Nat.pow_succ, Nat.mul_comm (2 ^ A) 2, ← Nat.div_div_eq_div_mul]
  have hp : 0 < 2 ^ A := Nat.two_pow_pos A
  have e : E.natAbs * 86400000 * 2 ^ A / 2 = E.natAbs * 43200000 * 2 ^ A := by
    have : E.natAbs * 86400000 * 2 ^ A = E.natAbs * 43200000 * 2 ^ A * 2 := by
      rw [Nat.mul_right_comm _ (2 ^ A) 2]; congr 1; omega
    rw [this]; exact Nat.mul_div_cancel _ (by decide)
  rw [e, Nat.mul_div_cancel _ hp, signed_zero]
  have hmin : IntKind.i64.min = -9223372036854775808 := by decide
  have hmax : IntKind.i64.max = 9223372036854775807 := by decide
  simp only [hmin, hmax, Bool.xor_false]
  rw [← hE]
  by_cases hn : E < 0
  · rw [decide_eq_true hn, if_pos rfl, if_pos (by omega)]; congr 1; omega
  · rw [decide_eq_false hn]
    simp only [Bool.false_eq_true, if_false]
    rw [if_pos (by omega)]; congr 1; omega

end Go.Proofs.Qxb6604200a.Flt
