/-
  Plain laws on the doubles of Ieee: what is written is read back (exactly, or within half a unit of the last place); a quotient cut to an integer.
-/
import Derived.Laws.FloatArith
namespace Go.Proofs.Qxb6604200a.Flt
open Go Ieee

theorem binade_d : Ieee.double.binade = 4503599627370496 := by decide
theorem inf_d : Ieee.double.infRung = 9218868437227405312 := by decide
theorem sw_d : Ieee.double.signWeight = 9223372036854775808 := by decide
theorem least_d : Ieee.double.leastPlace = -1074 := by decide

/-- a word read back -/
theorem read_word (neg : Bool) (rung : Nat) (h1 : 4503599627370496 ≤ rung) (h2 : rung < 9218868437227405312) :
    Ieee.double.read (Ieee.double.word neg rung) = .number neg (4503599627370496 + rung % 4503599627370496) (-1074 + (rung / 4503599627370496 - 1 : Nat)) := by
  have e1 : (Ieee.double.word neg rung) % 9223372036854775808 = rung := by
    unfold Format.word; rw [sw_d]; cases neg <;> simp <;> omega
  have e2 : ((Ieee.double.word neg rung) / 9223372036854775808 % 2 == 1) = neg := by
    unfold Format.word; rw [sw_d]
    cases neg
    · simp; omega
    · simp; omega
  unfold Format.read
  rw [sw_d, binade_d, inf_d, least_d]
  simp only [e1, e2]
  rw [if_neg (by omega), if_pos h2]

/-- how a cut to the nearest even lies -/
theorem cut_even (neg : Bool) (n drop : Nat) (h : drop ≤ n.log2) :
    Toward.even.cut neg n drop * 2 ^ drop * 2 ≤ n * 2 + 2 ^ drop ∧ n * 2 ≤ Toward.even.cut neg n drop * 2 ^ drop * 2 + 2 ^ drop ∧ n / 2 ^ drop ≤ Toward.even.cut neg n drop ∧ Toward.even.cut neg n drop ≤ n / 2 ^ drop + 1 := by
  have hm : min drop (n.log2 + 2) = drop := by omega
  have hs : 1 <<< drop = 2 ^ drop := by rw [Nat.shiftLeft_eq, Nat.one_mul]
  unfold Toward.cut
  simp only [hm, hs]
  have hp : 0 < 2 ^ drop := Nat.two_pow_pos _
  have hd := Nat.div_add_mod n (2 ^ drop)
  have hlt := Nat.mod_lt n hp
  generalize hg : 2 ^ drop = g at *
  generalize hl : n / g = low at *
  generalize hr : n % g = rest at *
  rw [Nat.mul_comm] at hd
  by_cases c : (decide (g < 2 * rest) || g == 2 * rest && low % 2 == 1) = true
  · rw [c]
    have hc : g ≤ 2 * rest := by
      simp at c; omega
    have e : (low + Bool.toNat true) * g = low * g + g := by rw [Bool.toNat_true, Nat.add_mul, Nat.one_mul]
    rw [e]
    simp only [Bool.toNat_true]
    omega
  · rw [Bool.not_eq_true] at c
    rw [c]
    have hc : 2 * rest ≤ g := by
      simp at c; omega
    simp only [Bool.toNat_false, Nat.add_zero]
    omega

theorem cut_exact (neg : Bool) (c drop : Nat) (h : drop ≤ (c * 2 ^ drop).log2) : Toward.even.cut neg (c * 2 ^ drop) drop = c := by
  have hm : min drop ((c * 2 ^ drop).log2 + 2) = drop := by omega
  have hs : 1 <<< drop = 2 ^ drop := by rw [Nat.shiftLeft_eq, Nat.one_mul]
  have hp : 0 < 2 ^ drop := Nat.two_pow_pos _
  unfold Toward.cut
  simp only [hm, hs, Nat.mul_div_cancel _ hp, Nat.mul_mod_left]
  have : (decide (2 ^ drop < 2 * 0) || 2 ^ drop == 2 * 0 && c % 2 == 1) = false := by
    simp
  rw [this]; rfl

theorem cut_zero' (neg : Bool) (n : Nat) : Toward.even.cut neg n 0 = n := by
  have := cut_exact neg n 0 (Nat.zero_le _)
  rw [Nat.pow_zero, Nat.mul_one] at this
  exact this

theorem log2_bounds (n : Nat) (h : n ≠ 0) : 2 ^ n.log2 ≤ n ∧ n < 2 ^ (n.log2 + 1) := ⟨Nat.log2_self_le h, Nat.lt_log2_self⟩

/-- WHAT 'nearest' WRITES, READ BACK: the kept digits k at the place L -/
theorem nearest_core (neg : Bool) (mag : Nat) (place : Int) (h0 : mag ≠ 0) (h1 : -1022 ≤ place + mag.log2) (h2 : place + mag.log2 ≤ 1000) (k : Nat) (L : Int) (hL : L = place + mag.log2 - 52)
    (hk : k = Toward.even.cut neg (mag <<< (place - L).toNat) (L - place).toNat) (hk1 : 4503599627370496 ≤ k) (hk2 : k ≤ 9007199254740992) :
    (k < 9007199254740992 → Ieee.double.read (Ieee.double.nearest neg mag place) = .number neg k L) ∧
    (k = 9007199254740992 → Ieee.double.read (Ieee.double.nearest neg mag place) = .number neg 4503599627370496 (L + 1)) := by
  have hf : Ieee.double.fractionBits = 52 := rfl
  have hmax : max (place + (mag.log2 : Int) - (Ieee.double.fractionBits : Int)) Ieee.double.leastPlace = L := by
    rw [hf, least_d]; omega
  have e : Ieee.double.nearest neg mag place = Ieee.double.word neg ((L + 1074).toNat * 4503599627370496 + k) := by
    unfold Format.nearest
    rw [if_neg h0]
    simp only [hmax, ← hk]
    rw [least_d, binade_d, inf_d, show L - -1074 = L + 1074 by omega]
    congr 1
    omega
  rw [e]
  have hr := read_word neg ((L + 1074).toNat * 4503599627370496 + k) (by omega) (by omega)
  rw [hr]
  constructor
  · intro h
    congr 1 <;> omega
  · intro h
    congr 1 <;> omega

/-- THE EXACT CASE -/
theorem nearest_exact (neg : Bool) (c B : Nat) (p : Int) (h0 : c ≠ 0) (hc : c < 9007199254740992) (h1 : -900 ≤ p) (h2 : p ≤ 900) :
    Ieee.double.read (Ieee.double.nearest neg (c * 2 ^ B) (p - B)) = .number neg (c * 2 ^ (52 - c.log2)) (p - (52 - c.log2 : Nat)) := by
  have hlc : c.log2 ≤ 52 := by
    have : c.log2 < 53 := (Nat.log2_lt h0).2 (by simpa using hc)
    omega
  have hlog : (c * 2 ^ B).log2 = c.log2 + B := by
    rw [Nat.log2_eq_iff (by intro h; rcases Nat.mul_eq_zero.1 h with h | h; exact h0 h; exact absurd h (Nat.ne_of_gt (Nat.two_pow_pos B)))]
    have ⟨a, b⟩ := log2_bounds c h0
    constructor
    · rw [Nat.pow_add]; exact Nat.mul_le_mul_right _ a
    · rw [show c.log2 + B + 1 = (c.log2 + 1) + B by omega, Nat.pow_add]; exact Nat.mul_lt_mul_of_pos_right b (Nat.two_pow_pos B)
  have hm0 : c * 2 ^ B ≠ 0 := by
    intro h; rcases Nat.mul_eq_zero.1 h with h | h
    · exact h0 h
    · exact absurd h (Nat.ne_of_gt (Nat.two_pow_pos B))
  have hK : c * 2 ^ (52 - c.log2) = Toward.even.cut neg ((c * 2 ^ B) <<< ((p - B) - (p + c.log2 - 52)).toNat) ((p + c.log2 - 52) - (p - B)).toNat := by
    rw [Nat.shiftLeft_eq, Nat.mul_assoc, ← Nat.pow_add]
    by_cases hb : B ≤ 52 - c.log2
    · have e1 : ((p + c.log2 - 52) - (p - B)).toNat = 0 := by omega
      have e2 : B + ((p - B) - (p + c.log2 - 52)).toNat = 52 - c.log2 := by omega
      rw [e1, e2, cut_zero']
    · have e1 : ((p + c.log2 - 52) - (p - B)).toNat = B - (52 - c.log2) := by omega
      have e2 : B + ((p - B) - (p + c.log2 - 52)).toNat = (52 - c.log2) + (B - (52 - c.log2)) := by omega
      rw [e1, e2, Nat.pow_add, ← Nat.mul_assoc]
      refine (cut_exact neg _ _ ?_).symm
      rw [Nat.mul_assoc, ← Nat.pow_add, show (52 - c.log2) + (B - (52 - c.log2)) = B by omega, hlog]
      omega
  have hb := log2_bounds c h0
  have hlo : 4503599627370496 ≤ c * 2 ^ (52 - c.log2) := by
    have : 2 ^ c.log2 * 2 ^ (52 - c.log2) ≤ c * 2 ^ (52 - c.log2) := Nat.mul_le_mul_right _ hb.1
    rw [← Nat.pow_add, show c.log2 + (52 - c.log2) = 52 by omega] at this
    exact this
  have hhi : c * 2 ^ (52 - c.log2) < 9007199254740992 := by
    have : c * 2 ^ (52 - c.log2) < 2 ^ (c.log2 + 1) * 2 ^ (52 - c.log2) := Nat.mul_lt_mul_of_pos_right hb.2 (Nat.two_pow_pos _)
    rw [← Nat.pow_add, show c.log2 + 1 + (52 - c.log2) = 53 by omega] at this
    exact this
  have := (nearest_core neg (c * 2 ^ B) (p - B) hm0 (by rw [hlog]; omega) (by rw [hlog]; omega) (c * 2 ^ (52 - c.log2)) (p + c.log2 - 52) (by rw [hlog]; omega) hK hlo (by omega)).1 hhi
  rw [this]
  congr 1
  omega

/-- ROUNDED: within half a unit -/
theorem nearest_round (neg : Bool) (mag : Nat) (place : Int) (hl : 52 ≤ mag.log2) (h0 : mag ≠ 0) (h1 : -1022 ≤ place + mag.log2) (h2 : place + mag.log2 ≤ 1000) :
    ∃ m D : Nat, Ieee.double.read (Ieee.double.nearest neg mag place) = .number neg m (place + D) ∧ 4503599627370496 ≤ m ∧ m < 9007199254740992 ∧ mag.log2 - 52 ≤ D ∧ D ≤ mag.log2 - 51 ∧
      m * 2 ^ D * 2 ≤ mag * 2 + 2 ^ (mag.log2 - 52) ∧ mag * 2 ≤ m * 2 ^ D * 2 + 2 ^ (mag.log2 - 52) := by
  have ⟨c1, c2, c3, c4⟩ := cut_even neg mag (mag.log2 - 52) (by omega)
  have ⟨b1, b2⟩ := log2_bounds mag h0
  obtain ⟨d, hd⟩ : ∃ d, mag.log2 = d + 52 := ⟨mag.log2 - 52, by omega⟩
  have ed : mag.log2 - 52 = d := by omega
  rw [ed] at c1 c2 c3 c4
  rw [hd] at b1 b2
  have hp : 0 < 2 ^ d := Nat.two_pow_pos d
  have q1 : 4503599627370496 ≤ mag / 2 ^ d := by
    rw [Nat.le_div_iff_mul_le hp]
    rw [Nat.pow_add, Nat.mul_comm] at b1
    exact b1
  have q2 : mag / 2 ^ d < 9007199254740992 := by
    rw [Nat.div_lt_iff_lt_mul hp]
    rw [show d + 52 + 1 = 53 + d by omega, Nat.pow_add] at b2
    exact b2
  have core := nearest_core neg mag place h0 h1 h2 (Toward.even.cut neg mag d) (place + d) (by omega)
    (by rw [show (place - (place + (d : Int))).toNat = 0 by omega, show (place + (d : Int) - place).toNat = d by omega, Nat.shiftLeft_zero]) (by omega) (by omega)
  rw [hd, show d + 52 - 51 = d + 1 by omega, show d + 52 - 52 = d by omega]
  by_cases hk : Toward.even.cut neg mag d < 9007199254740992
  · exact ⟨_, d, core.1 hk, by omega, hk, by omega, by omega, c1, c2⟩
  · have hk' : Toward.even.cut neg mag d = 9007199254740992 := by omega
    have e : 4503599627370496 * 2 ^ (d + 1) = 9007199254740992 * 2 ^ d := by rw [Nat.pow_succ]; omega
    rw [hk'] at c1 c2
    refine ⟨4503599627370496, d + 1, ?_, by omega, by omega, by omega, by omega, by rw [e]; exact c1, by rw [e]; exact c2⟩
    rw [core.2 hk']
    congr 1
    omega

/-- cut towards zero -/
theorem cut_down (neg : Bool) (n drop : Nat) : Toward.zero.cut neg n drop = n / 2 ^ drop := by
  unfold Toward.cut
  simp only [Bool.toNat_false, Nat.add_zero]
  rw [Nat.shiftLeft_eq, Nat.one_mul]
  by_cases h : drop ≤ n.log2 + 2
  · rw [Nat.min_eq_left h]
  · rw [Nat.min_eq_right (by omega)]
    have a : n < 2 ^ (n.log2 + 2) := Nat.lt_of_lt_of_le Nat.lt_log2_self (Nat.pow_le_pow_right (by omega) (by omega))
    have b : n < 2 ^ drop := Nat.lt_of_lt_of_le a (Nat.pow_le_pow_right (by omega) (by omega))
    rw [Nat.div_eq_of_lt a, Nat.div_eq_of_lt b]

theorem toInt_small (neg : Bool) (m : Nat) (i : Int) (h : i ≤ 0) : (Datum.number neg m i).toInt .zero = some (signed neg (m / 2 ^ (-i).toNat) 0) := by
  unfold Datum.toInt Datum.integral
  simp only [cut_down]
  rw [show i.toNat = 0 by omega, Nat.shiftLeft_zero]

theorem signed_zero (neg : Bool) (F : Nat) : signed neg F 0 = if neg then -(F : Int) else F := by
  unfold signed; rw [Nat.shiftLeft_zero]

/-- the digits of a quotient of two full significands -/
theorem quo_mag (m n : Nat) (m1 : 4503599627370496 ≤ m) (m2 : m < 9007199254740992) (n1 : 4503599627370496 ≤ n) (n2 : n < 9007199254740992) (mag : Nat)
    (hmag : mag = 2 * (m * 18014398509481984 / n) + (m * 18014398509481984 % n != 0).toNat) :
    mag * n ≤ m * 36028797018963968 + n ∧ m * 36028797018963968 ≤ mag * n + n ∧ 18014398509481984 ≤ mag ∧ mag < 72057594037927936 ∧ (∀ G, m * 18014398509481984 = G * n → mag = 2 * G) := by
  have hdm := Nat.div_add_mod (m * 18014398509481984) n
  have hml := Nat.mod_lt (m * 18014398509481984) (show 0 < n by omega)
  have hex : ∀ G, m * 18014398509481984 = G * n → m * 18014398509481984 / n = G ∧ m * 18014398509481984 % n = 0 := by
    intro G h
    rw [h]
    exact ⟨Nat.mul_div_cancel _ (by omega), Nat.mul_mod_left _ _⟩
  have Qlo : 9007199254740992 ≤ m * 18014398509481984 / n := by
    rw [Nat.le_div_iff_mul_le (by omega)]; omega
  have Qhi : m * 18014398509481984 / n < 36028797018963968 := by
    rw [Nat.div_lt_iff_lt_mul (by omega)]; omega
  generalize m * 18014398509481984 / n = Q at *
  generalize m * 18014398509481984 % n = R at *
  have hst : (R != 0).toNat = 0 ∧ R = 0 ∨ (R != 0).toNat = 1 ∧ 0 < R := by
    by_cases h : R = 0
    · left; subst h; exact ⟨rfl, rfl⟩
    · right
      have : (R != 0) = true := by rw [bne_iff_ne]; exact h
      rw [this]; exact ⟨rfl, by omega⟩
  have hmn : mag * n = 2 * (n * Q) + (R != 0).toNat * n := by
    rw [hmag, Nat.add_mul, Nat.mul_assoc, Nat.mul_comm Q n]
  refine ⟨?_, ?_, by omega, by omega, ?_⟩
  · rw [hmn]
    rcases hst with ⟨e, h⟩ | ⟨e, h⟩ <;> rw [e] <;> omega
  · rw [hmn]
    rcases hst with ⟨e, h⟩ | ⟨e, h⟩ <;> rw [e] <;> omega
  · intro G h
    obtain ⟨a, b⟩ := hex G h
    rw [hmag, a, b]; rfl

theorem scale2 (A B n c : Nat) (h : A * 2 ≤ B * 2 + c) : A * n * 2 ≤ B * n * 2 + c * n := by
  have := Nat.mul_le_mul_right n h
  rw [Nat.add_mul, Nat.mul_right_comm A 2 n, Nat.mul_right_comm B 2 n] at this
  exact this

/-- A QUOTIENT, CUT TO AN INTEGER -/
theorem quo_int (x y : Nat) (s t : Bool) (m n : Nat) (i j : Int) (hx : Ieee.double.read x = .number s m i) (hy : Ieee.double.read y = .number t n j)
    (m1 : 4503599627370496 ≤ m) (m2 : m < 9007199254740992) (n1 : 4503599627370496 ≤ n) (n2 : n < 9007199254740992)
    (T F : Nat) (hT : i - j = 55 - T) (hT4 : 4 ≤ T) (hT9 : T ≤ 900) (U : m * 36028797018963968 + 5 * n < (F + 1) * (n * 2 ^ T)) (Lo : F * (n * 2 ^ T) + 5 * n ≤ m * 36028797018963968 ∨ m * 36028797018963968 = F * (n * 2 ^ T)) (hF : F < 4611686018427387904) :
    ∃ r, floatBits .quo .f64 x y = some r ∧ floatToIntVal .f64 r .i64 = some (if (s ^^ t) then -(F : Int) else F) := by
  have lm : m.log2 = 52 := (Nat.log2_eq_iff (by omega)).2 ⟨by simpa using m1, by simpa using m2⟩
  have ln : n.log2 = 52 := (Nat.log2_eq_iff (by omega)).2 ⟨by simpa using n1, by simpa using n2⟩
  have hs : m <<< 54 = m * 18014398509481984 := by rw [Nat.shiftLeft_eq]
  obtain ⟨mag, hmag⟩ : ∃ mag, mag = 2 * (m * 18014398509481984 / n) + (m * 18014398509481984 % n != 0).toNat := ⟨_, rfl⟩
  have hq : Ieee.double.div x y = some (Ieee.double.nearest (s ^^ t) mag (-(T : Int))) := by
    unfold Format.div
    rw [hx, hy]
    unfold Datum.quotient
    simp only [lm, ln, show Ieee.double.fractionBits = 52 from rfl]
    rw [if_neg (by omega), show 52 + 2 + 52 - 52 = 54 from rfl]
    simp only [Option.map_some, Format.write, hs, ← hmag]
    rw [show i - j - ((54 : Nat) : Int) - 1 = -(T : Int) by omega]
  obtain ⟨up, dn, g1, g2, hex⟩ := quo_mag m n m1 m2 n1 n2 mag hmag
  clear hmag
  have hmlog : mag.log2 = 54 ∨ mag.log2 = 55 := by
    have h0 : mag ≠ 0 := by omega
    have a : 54 ≤ mag.log2 := (Nat.le_log2 h0).2 (by simpa using g1)
    have b : mag.log2 < 56 := (Nat.log2_lt h0).2 (by simpa using g2)
    omega
  obtain ⟨k, D, hread, k1, k2, hD0, hD, c1, c2⟩ := nearest_round (s ^^ t) mag (-(T : Int)) (by omega) (by omega) (by omega) (by omega)
  have hD4 : D ≤ 4 := by omega
  have hpw : 2 ^ (mag.log2 - 52) ≤ 8 := by
    rcases hmlog with h | h <;> rw [h] <;> decide
  have hhalf : 2 ^ (mag.log2 - 52) ≤ 2 ^ D := Nat.pow_le_pow_right (by omega) hD0
  have hpT : 2 ^ D * 2 ^ (T - D) = 2 ^ T := by rw [← Nat.pow_add, Nat.add_sub_cancel' (by omega)]
  have hexact : m * 36028797018963968 = F * (n * 2 ^ T) → mag = F * 2 ^ T := by
    intro h
    obtain ⟨u, hu⟩ : ∃ u, T = u + 1 := ⟨T - 1, by omega⟩
    have e : F * (n * 2 ^ T) = F * 2 ^ u * n * 2 := by
      rw [hu, Nat.pow_succ, ← Nat.mul_assoc n, ← Nat.mul_assoc, Nat.mul_comm n, ← Nat.mul_assoc]
    have h2 : m * 18014398509481984 * 2 = F * 2 ^ u * n * 2 := by rw [Nat.mul_assoc, ← e, ← h]
    have := hex (F * 2 ^ u) (Nat.eq_of_mul_eq_mul_right (by decide) h2)
    rw [this, hu, Nat.pow_succ, Nat.mul_comm 2, Nat.mul_assoc]
  have a4 : ∀ G, G * 2 ^ T * n = G * (n * 2 ^ T) := fun G => by rw [Nat.mul_assoc, Nat.mul_comm (2 ^ T) n]
  have hdiv : k / 2 ^ (T - D) = F := by
    clear hread hq hex hT
    refine Nat.div_eq_of_lt_le ?_ ?_
    · refine Nat.le_of_not_lt fun hlt => ?_
      have a1 : (k + 1) * 2 ^ D ≤ F * 2 ^ (T - D) * 2 ^ D := Nat.mul_le_mul_right _ hlt
      rw [Nat.mul_assoc, Nat.mul_comm (2 ^ (T - D)), hpT, Nat.add_mul, Nat.one_mul] at a1
      rcases Lo with Lo | Lo
      · have a2 : mag * 2 ≤ (F * 2 ^ T) * 2 + 6 := by have hpD : 0 < 2 ^ D := Nat.two_pow_pos D; omega
        have a3 := scale2 _ _ n _ a2
        rw [a4] at a3
        omega
      · rw [← hexact Lo] at a1
        have hpD : 0 < 2 ^ D := Nat.two_pow_pos D
        omega
    · refine Nat.lt_of_not_le fun hle => ?_
      have a1 : (F + 1) * 2 ^ (T - D) * 2 ^ D ≤ k * 2 ^ D := Nat.mul_le_mul_right _ hle
      rw [Nat.mul_assoc, Nat.mul_comm (2 ^ (T - D)), hpT] at a1
      have a2 : (F + 1) * 2 ^ T * 2 ≤ mag * 2 + 8 := by omega
      have a3 := scale2 _ _ n _ a2
      rw [a4] at a3
      omega
  refine ⟨_, hq, ?_⟩
  unfold floatToIntVal
  have hdec : FloatKind.f64.decode (Ieee.double.nearest (s ^^ t) mag (-(T : Int))) = .number (s ^^ t) k (-(T : Int) + D) := hread
  rw [hdec, toInt_small _ _ _ (by omega), show (-(-(T : Int) + D)).toNat = T - D by omega, hdiv, signed_zero]
  have hmin : IntKind.i64.min = -9223372036854775808 := by decide
  have hmax : IntKind.i64.max = 9223372036854775807 := by decide
  simp only [hmin, hmax]
  rw [if_pos]
  split <;> omega

end Go.Proofs.Qxb6604200a.Flt
