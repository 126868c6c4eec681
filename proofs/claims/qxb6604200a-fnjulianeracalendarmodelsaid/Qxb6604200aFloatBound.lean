/-
  The seconds, turned to milliseconds: 'int64(float64(x*1000) + 0.5)' has a value wherever x lies within 2^40.
-/
import Derived.Test.Qxb6604200aFloatPlain
namespace Go.Proofs.Qxb6604200a.Flt
open Go Ieee

theorem read_bounds {x : Nat} {s : Bool} {m : Nat} {i : Int} (h : Ieee.double.read x = .number s m i) : m < 9007199254740992 ∧ (i = -1074 ∨ 4503599627370496 ≤ m) := by
  unfold Format.read at h
  rw [sw_d, binade_d, inf_d, least_d] at h
  simp only at h
  split at h
  · cases h
    omega
  · split at h
    · cases h
      omega
    · split at h <;> cases h

/-- a word of a rung below infinity, read -/
theorem read_rung (neg : Bool) (rung K : Nat) (h : rung ≤ (K + 1) * 4503599627370496) (hK : K + 1 < 2047) :
    ∃ m i, Ieee.double.read (Ieee.double.word neg rung) = .number neg m i ∧ m < 9007199254740992 ∧ i ≤ -1074 + (K : Int) := by
  have e1 : (Ieee.double.word neg rung) % 9223372036854775808 = rung := by
    unfold Format.word; rw [sw_d]; cases neg <;> simp <;> omega
  have e2 : ((Ieee.double.word neg rung) / 9223372036854775808 % 2 == 1) = neg := by
    unfold Format.word; rw [sw_d]
    cases neg
    · simp; omega
    · simp; omega
  unfold Format.read
  rw [sw_d, binade_d, inf_d, least_d]
  simp only [e1, e2]
  by_cases h1 : rung < 4503599627370496
  · rw [if_pos h1]
    exact ⟨_, _, rfl, by omega, by omega⟩
  · rw [if_neg h1, if_pos (by omega)]
    exact ⟨_, _, rfl, by omega, by omega⟩

theorem cut_le (neg : Bool) (n drop : Nat) (h : n < 2 ^ (53 + drop)) : Toward.even.cut neg n drop ≤ 9007199254740992 := by
  unfold Toward.cut
  have hlow : n / (1 <<< min drop (n.log2 + 2)) < 9007199254740992 := by
    rw [Nat.shiftLeft_eq, Nat.one_mul]
    by_cases hd : drop ≤ n.log2 + 2
    · rw [Nat.min_eq_left hd, Nat.div_lt_iff_lt_mul (Nat.two_pow_pos _)]
      rw [Nat.pow_add] at h
      exact h
    · rw [Nat.min_eq_right (by omega), Nat.div_eq_of_lt]
      · decide
      · refine Nat.lt_of_lt_of_le Nat.lt_log2_self ?_
        exact Nat.pow_le_pow_right (by decide) (by omega)
  simp only
  generalize n / (1 <<< min drop (n.log2 + 2)) = low at *
  generalize (decide (1 <<< min drop (n.log2 + 2) < 2 * (n % (1 <<< min drop (n.log2 + 2)))) || (1 <<< min drop (n.log2 + 2) == 2 * (n % (1 <<< min drop (n.log2 + 2))) && low % 2 == 1)) = c
  cases c
  · simp; omega
  · simp; omega

/-- what 'nearest' writes, read back: a bound on its place -/
theorem near_small (neg : Bool) (mag : Nat) (place : Int) (K : Int) (h : mag = 0 ∨ place + mag.log2 ≤ K) (k1 : -1000 ≤ K) (k2 : K ≤ 900) :
    ∃ m i, Ieee.double.read (Ieee.double.nearest neg mag place) = .number neg m i ∧ m < 9007199254740992 ∧ i ≤ K - 51 := by
  by_cases h0 : mag = 0
  · unfold Format.nearest
    rw [if_pos h0]
    obtain ⟨m, i, hr, hm, hi⟩ := read_rung neg 0 0 (by omega) (by omega)
    exact ⟨m, i, hr, hm, by omega⟩
  · have hp : place + mag.log2 ≤ K := by
      rcases h with h | h
      · exact absurd h h0
      · exact h
    unfold Format.nearest
    rw [if_neg h0]
    simp only
    rw [show Ieee.double.fractionBits = 52 from rfl, least_d, binade_d, inf_d]
    obtain ⟨last, hlast⟩ : ∃ last : Int, last = max (place + (mag.log2 : Int) - ((52 : Nat) : Int)) (-1074) := ⟨_, rfl⟩
    rw [← hlast]
    have hl1 : place + mag.log2 - 52 ≤ last := by omega
    have hl2 : last ≤ K - 52 := by omega
    have hl3 : -1074 ≤ last := by omega
    clear hlast
    have hn : mag <<< (place - last).toNat < 2 ^ (53 + (last - place).toNat) := by
      rw [Nat.shiftLeft_eq]
      have hb := (log2_bounds mag h0).2
      have : mag * 2 ^ (place - last).toNat < 2 ^ (mag.log2 + 1) * 2 ^ (place - last).toNat := Nat.mul_lt_mul_of_pos_right hb (Nat.two_pow_pos _)
      rw [← Nat.pow_add] at this
      exact Nat.lt_of_lt_of_le this (Nat.pow_le_pow_right (by decide) (by omega))
    have hk := cut_le neg _ _ hn
    generalize Toward.even.cut neg (mag <<< (place - last).toNat) (last - place).toNat = kept at *
    obtain ⟨J, hJ⟩ : ∃ J : Nat, (J : Int) = K + 1023 := ⟨(K + 1023).toNat, by omega⟩
    obtain ⟨m, i, hr, hm, hi⟩ := read_rung neg (min ((last - -1074).toNat * 4503599627370496 + kept) 9218868437227405312) J (by omega) (by omega)
    exact ⟨m, i, hr, hm, by omega⟩

theorem c1000 : Ieee.double.read 4652007308841189376 = .number false 8796093022208000 (-43) := by decide
theorem chalf : Ieee.double.read 4602678819172646912 = .number false 4503599627370496 (-53) := by decide
theorem chi : Ieee.double.read 4787326403894837248 = .number false 4503599627370496 (-12) := by decide
theorem clo : Ieee.double.read 14010698440749613056 = .number true 4503599627370496 (-12) := by decide

theorem shl_big (m a : Nat) (h : 4503599627370496 ≤ m) (ha : 1 ≤ a) : 9007199254740992 ≤ m <<< a := by
  rw [Nat.shiftLeft_eq]
  have h2 : 2 ^ 1 ≤ 2 ^ a := Nat.pow_le_pow_right (by decide) ha
  have : m * 2 ≤ m * 2 ^ a := Nat.mul_le_mul_left _ h2
  omega

/-- a float within 2^40 -/
theorem within (b : Nat) (h1 : Ieee.double.order b 14010698440749613056 = some .gt ∨ Ieee.double.order b 14010698440749613056 = some .eq)
    (h2 : Ieee.double.order b 4787326403894837248 = some .lt ∨ Ieee.double.order b 4787326403894837248 = some .eq) :
    ∃ s m i, Ieee.double.read b = .number s m i ∧ m < 9007199254740992 ∧ i ≤ -12 := by
  unfold Format.order at h1 h2
  rw [clo] at h1
  rw [chi] at h2
  cases hb : Ieee.double.read b with
  | nan s f => rw [hb] at h1; rcases h1 with h | h <;> cases h
  | infinity s =>
    rw [hb] at h1 h2
    cases s
    · rcases h2 with h | h <;> cases h
    · rcases h1 with h | h <;> cases h
  | number s m i =>
    obtain ⟨hm, hi⟩ := read_bounds hb
    refine ⟨s, m, i, rfl, hm, ?_⟩
    refine Int.not_lt.1 fun hlt => ?_
    have hbig := shl_big m (i - -12).toNat (by omega) (by omega)
    rw [hb] at h1 h2
    unfold Datum.order at h1 h2
    simp only [show min i (-12) = -12 by omega, show (-12 - -12 : Int).toNat = 0 from rfl, Option.some.injEq] at h1 h2
    unfold signed at h1 h2
    simp only [if_true, Bool.false_eq_true, if_false] at h1 h2
    have z : (4503599627370496 : Nat) <<< 0 = 4503599627370496 := rfl
    rw [z] at h1 h2
    generalize m <<< (i - -12).toNat = M at *
    cases s
    · simp only [Bool.false_eq_true, if_false] at h2
      have hgt : compare (M : Int) ((4503599627370496 : Nat) : Int) = .gt := by
        rw [Int.compare_eq_gt]; omega
      rw [hgt] at h2
      rcases h2 with h | h <;> cases h
    · simp only [if_true] at h1
      have hlt' : compare (-(M : Int)) (-((4503599627370496 : Nat) : Int)) = .lt := by
        rw [Int.compare_eq_lt]; omega
      rw [hlt'] at h1
      rcases h1 with h | h <;> cases h

theorem signed_abs (s : Bool) (m u : Nat) : (signed s m u).natAbs = m * 2 ^ u := by
  rw [← Nat.shiftLeft_eq]
  unfold signed
  cases s
  · exact Int.natAbs_natCast _
  · exact (Int.natAbs_neg _).trans (Int.natAbs_natCast _)

/-- THE MILLISECONDS HAVE A VALUE -/
theorem clock_val (b : Nat) (h1 : Ieee.double.order b 14010698440749613056 = some .gt ∨ Ieee.double.order b 14010698440749613056 = some .eq)
    (h2 : Ieee.double.order b 4787326403894837248 = some .lt ∨ Ieee.double.order b 4787326403894837248 = some .eq) :
    ∃ r3 r4 V, floatBits .mul .f64 b 4652007308841189376 = some r3 ∧ floatBits .add .f64 r3 4602678819172646912 = some r4 ∧ floatToIntVal .f64 r4 .i64 = some V := by
  obtain ⟨s, m, i, hb, hm, hi⟩ := within b h1 h2
  -- the product
  have e3 : floatBits .mul .f64 b 4652007308841189376 = some (Ieee.double.nearest (s ^^ false) (m * 8796093022208000) (i + -43)) := by
    show Ieee.double.mul b 4652007308841189376 = _
    unfold Format.mul
    rw [hb, c1000]
    rfl
  have hp : m * 8796093022208000 = 0 ∨ i + -43 + ((m * 8796093022208000).log2 : Int) ≤ 50 := by
    by_cases h0 : m * 8796093022208000 = 0
    · exact Or.inl h0
    · right
      have : (m * 8796093022208000).log2 < 106 := (Nat.log2_lt h0).2 (by
        have : (2 : Nat) ^ 106 = 81129638414606681695789005144064 := by decide
        omega)
      omega
  obtain ⟨m3, i3, hr3, hm3, hi3⟩ := near_small (s ^^ false) (m * 8796093022208000) (i + -43) 50 hp (by omega) (by omega)
  obtain ⟨r3, hr3e⟩ : ∃ r3, r3 = Ieee.double.nearest (s ^^ false) (m * 8796093022208000) (i + -43) := ⟨_, rfl⟩
  rw [← hr3e] at e3 hr3
  -- the sum
  obtain ⟨base, hbase⟩ : ∃ base : Int, base = min i3 (-53) := ⟨_, rfl⟩
  obtain ⟨total, htot⟩ : ∃ total : Int, total = signed (s ^^ false) m3 (i3 - base).toNat + signed false 4503599627370496 (-53 - base).toNat := ⟨_, rfl⟩
  obtain ⟨sg, hsg⟩ : ∃ sg : Bool, sg = (if total = 0 then (s ^^ false) && false else decide (total < 0)) := ⟨_, rfl⟩
  have e4 : floatBits .add .f64 r3 4602678819172646912 = some (Ieee.double.nearest sg total.natAbs base) := by
    show Ieee.double.add r3 4602678819172646912 = _
    unfold Format.add
    rw [hr3, chalf]
    unfold Datum.sum
    simp only [Option.map_some, Format.write]
    rw [← hbase, ← htot, hsg]
  have hq : total.natAbs = 0 ∨ base + (total.natAbs.log2 : Int) ≤ 52 := by
    by_cases h0 : total.natAbs = 0
    · exact Or.inl h0
    · right
      obtain ⟨e, he⟩ : ∃ e : Nat, (e : Int) = 52 - base := ⟨(52 - base).toNat, by omega⟩
      have b1 : m3 * 2 ^ (i3 - base).toNat < 2 ^ e := by
        have : m3 * 2 ^ (i3 - base).toNat < 2 ^ 53 * 2 ^ (i3 - base).toNat := Nat.mul_lt_mul_of_pos_right (by simpa using hm3) (Nat.two_pow_pos _)
        rw [← Nat.pow_add] at this
        exact Nat.lt_of_lt_of_le this (Nat.pow_le_pow_right (by decide) (by omega))
      have b2 : 4503599627370496 * 2 ^ (-53 - base).toNat ≤ 2 ^ e := by
        have : 4503599627370496 * 2 ^ (-53 - base).toNat = 2 ^ (52 + (-53 - base).toNat) := by rw [Nat.pow_add]
        rw [this]
        exact Nat.pow_le_pow_right (by decide) (by omega)
      have b3 : total.natAbs ≤ m3 * 2 ^ (i3 - base).toNat + 4503599627370496 * 2 ^ (-53 - base).toNat := by
        rw [htot, ← signed_abs (s ^^ false) m3, ← signed_abs false 4503599627370496]
        exact Int.natAbs_add_le _ _
      have b4 : total.natAbs < 2 ^ (e + 1) := by rw [Nat.pow_succ]; omega
      have := (Nat.log2_lt h0).2 b4
      omega
  obtain ⟨m4, i4, hr4, hm4, hi4⟩ := near_small sg total.natAbs base 52 hq (by omega) (by omega)
  -- the integer
  refine ⟨r3, _, (if sg then -(((m4 <<< i4.toNat) / (1 <<< min (-i4).toNat ((m4 <<< i4.toNat).log2 + 2)) : Nat) : Int) else (((m4 <<< i4.toNat) / (1 <<< min (-i4).toNat ((m4 <<< i4.toNat).log2 + 2)) : Nat) : Int)), e3, e4, ?_⟩
  unfold floatToIntVal
  have hdec : FloatKind.f64.decode (Ieee.double.nearest sg total.natAbs base) = .number sg m4 i4 := hr4
  rw [hdec]
  have hint : Datum.toInt .zero (.number sg m4 i4) = some (if sg then -(((m4 <<< i4.toNat) / (1 <<< min (-i4).toNat ((m4 <<< i4.toNat).log2 + 2)) : Nat) : Int) else (((m4 <<< i4.toNat) / (1 <<< min (-i4).toNat ((m4 <<< i4.toNat).log2 + 2)) : Nat) : Int)) := by
    unfold Datum.toInt Datum.integral Toward.cut
    simp only [Bool.toNat_false, Nat.add_zero]
    unfold signed
    rw [Nat.shiftLeft_zero]
  rw [hint]
  have hlow : (m4 <<< i4.toNat) / (1 <<< min (-i4).toNat ((m4 <<< i4.toNat).log2 + 2)) ≤ 18014398509481984 := by
    refine Nat.le_trans (Nat.div_le_self _ _) ?_
    rw [Nat.shiftLeft_eq]
    have h21 : 2 ^ i4.toNat ≤ 2 ^ 1 := Nat.pow_le_pow_right (by decide) (by omega)
    have := Nat.mul_le_mul_left m4 h21
    omega
  generalize (m4 <<< i4.toNat) / (1 <<< min (-i4).toNat ((m4 <<< i4.toNat).log2 + 2)) = low at *
  have hmin : IntKind.i64.min = -9223372036854775808 := by decide
  have hmax : IntKind.i64.max = 9223372036854775807 := by decide
  simp only [hmin, hmax]
  rw [if_pos]
  split <;> omega

end Go.Proofs.Qxb6604200a.Flt
