/-
  The plain calendar: days counted from 0000-03-01, cut into 400, 100, 4 and 1 years; what civil's integers come to.
-/
namespace Go.Proofs.Qxb6604200a.Cal

/-- n days after 0000-03-01: E times 400 years, q times 100, t times 4, v years, r days -/
structure Dec (n E q t v r : Int) : Prop where
  val : n = 146097 * E + 36524 * q + 1461 * t + 365 * v + r
  q0 : 0 ≤ q
  q3 : q ≤ 3
  t0 : 0 ≤ t
  t24 : t ≤ 24
  v0 : 0 ≤ v
  v3 : v ≤ 3
  r0 : 0 ≤ r
  r365 : r ≤ 365
  last : r = 365 → v = 3 ∧ (t = 24 → q = 3)

theorem dec_ex (n : Int) : ∃ E q t v r, Dec n E q t v r := by
  obtain ⟨E, s1, h1, a1, b1⟩ : ∃ E s, n = 146097 * E + s ∧ 0 ≤ s ∧ s < 146097 := ⟨n / 146097, n % 146097, by omega, by omega, by omega⟩
  obtain ⟨q, s2, h2, a2, b2, c2, d2⟩ : ∃ q s, s1 = 36524 * q + s ∧ 0 ≤ s ∧ 0 ≤ q ∧ q ≤ 3 ∧ (s < 36524 ∨ (s = 36524 ∧ q = 3)) := by
    by_cases h : s1 = 146096
    · exact ⟨3, 36524, by omega, by omega, by omega, by omega, by omega⟩
    · exact ⟨s1 / 36524, s1 % 36524, by omega, by omega, by omega, by omega, by omega⟩
  obtain ⟨t, s3, h3, a3, b3, c3, d3⟩ : ∃ t s, s2 = 1461 * t + s ∧ 0 ≤ s ∧ 0 ≤ t ∧ t ≤ 24 ∧ s ≤ 1460 := by
    exact ⟨s2 / 1461, s2 % 1461, by omega, by omega, by omega, by omega, by omega⟩
  obtain ⟨v, r, h4, a4, b4, c4, d4⟩ : ∃ v r, s3 = 365 * v + r ∧ 0 ≤ r ∧ 0 ≤ v ∧ v ≤ 3 ∧ (r < 365 ∨ (r = 365 ∧ v = 3)) := by
    by_cases h : s3 = 1460
    · exact ⟨3, 365, by omega, by omega, by omega, by omega, by omega⟩
    · exact ⟨s3 / 365, s3 % 365, by omega, by omega, by omega, by omega, by omega⟩
  exact ⟨E, q, t, v, r, by omega, by omega, by omega, by omega, by omega, by omega, by omega, by omega, by omega, fun h => by omega⟩

/-- the year that opens in March -/
def Y (E q t v : Int) : Int := 400 * E + 100 * q + 4 * t + v

/-- the month that counts from March, the day in it -/
def mp (r : Int) : Int := (5 * r + 2) / 153
def dom (r : Int) : Int := r - (153 * mp r + 2) / 5 + 1

theorem mp_bounds {r : Int} (h0 : 0 ≤ r) (h1 : r ≤ 365) : 0 ≤ mp r ∧ mp r ≤ 11 ∧ 1 ≤ dom r ∧ dom r ≤ 31 ∧ (mp r = 11 → dom r ≤ 29) := by
  unfold dom mp; omega

/-- civil's month and day, out of 123 days and r -/
theorem e_val {r : Int} (h0 : 0 ≤ r) (h1 : r ≤ 365) :
    (r + 123) * 10000 / 306001 = mp r + 4 ∧ r + 123 - 306001 * (mp r + 4) / 10000 = dom r := by
  have hm := mp_bounds h0 h1
  unfold dom
  have hc : mp r = 0 ∨ mp r = 1 ∨ mp r = 2 ∨ mp r = 3 ∨ mp r = 4 ∨ mp r = 5 ∨ mp r = 6 ∨ mp r = 7 ∨ mp r = 8 ∨ mp r = 9 ∨ mp r = 10 ∨ mp r = 11 := by omega
  have hd : mp r = (5 * r + 2) / 153 := rfl
  rcases hc with h | h | h | h | h | h | h | h | h | h | h | h <;> rw [h] at hd ⊢ <;> omega

/-- is this day one of the thirteen? -/
def Odd (E q t v r : Int) : Prop := E ≤ 0 ∧ q = 3 ∧ t = 0 ∧ v = 0 ∧ r = 0

theorem td_pos (k x : Int) (hk : 0 ≤ k) (h0 : 0 ≤ x) (h1 : x < 146097) : (146097 * k + x).tdiv 146097 = k := by
  rw [Int.tdiv_eq_ediv_of_nonneg (by omega)]; omega
theorem td_neg (k x : Int) (hk : 0 ≤ k) (h0 : 0 ≤ x) (h1 : x < 146097) : (-(146097 * k + x)).tdiv 146097 = -k := by
  rw [Int.neg_tdiv, td_pos k x hk h0 h1]
theorem td4_pos (k : Int) (hk : 0 ≤ k) : k.tdiv 4 = k / 4 := Int.tdiv_eq_ediv_of_nonneg hk
theorem td4_neg (k : Int) (hk : 0 ≤ k) : (-k).tdiv 4 = -(k / 4) := by rw [Int.neg_tdiv, td4_pos k hk]

/-- A, as it comes: the century less 4, cut towards zero -/
theorem a_val {n E q t v r z : Int} (d : Dec n E q t v r) (hz : z = n + 1721120) (hodd : ¬ Odd E q t v r) :
    z + 1 + (4 * z - 7468865).tdiv 146097 - ((4 * z - 7468865).tdiv 146097).tdiv 4 + 1524 = 365 * Y E q t v + Y E q t v / 4 + r + 1722642 := by
  obtain ⟨h, q0, q3, t0, t24, v0, v3, r0, r1, hl⟩ := d
  have hY4 : Y E q t v / 4 = 100 * E + 25 * q + t := by unfold Y; omega
  have hYv : Y E q t v = 400 * E + 100 * q + 4 * t + v := rfl
  obtain ⟨x, hx⟩ : ∃ x, x = 4 * (1461 * t + 365 * v + r) + 3 - q := ⟨_, rfl⟩
  have hE : 4 * z - 7468865 = 146097 * (4 * E + q - 4) + x := by omega
  have hx0 : 0 ≤ x := by omega
  have hx1 : x < 146097 := by omega
  rw [hY4, hYv]
  by_cases hpos : 0 ≤ 4 * E + q - 4
  · rw [hE, td_pos _ x hpos hx0 hx1, td4_pos _ hpos]
    clear hE hl hx
    omega
  · by_cases hxz : x = 0
    · clear hE h hY4 hYv hl
      have k0 : 1461 * t + 365 * v + r = 0 := by omega
      have k1 : t = 0 := by omega
      have k2 : v = 0 := by omega
      have k3 : r = 0 := by omega
      have k4 : q = 3 := by omega
      have k5 : E ≤ 0 := by omega
      exact absurd ⟨k5, k4, k1, k2, k3⟩ hodd
    · have e0 : 4 * z - 7468865 = -(146097 * (3 - 4 * E - q) + (146097 - x)) := by omega
      have e3 : 0 ≤ 3 - 4 * E - q := by omega
      rw [e0, td_neg _ _ e3 (by omega) (by omega), td4_neg _ e3]
      have e4 : (3 - 4 * E - q) / 4 = -E := by omega
      rw [e4]
      clear hE hl hx e0 e3 e4
      omega

/-- ... and on one of the thirteen days it is one less -/
theorem a_odd {n E q t v r z : Int} (d : Dec n E q t v r) (hz : z = n + 1721120) (hodd : Odd E q t v r) :
    z + 1 + (4 * z - 7468865).tdiv 146097 - ((4 * z - 7468865).tdiv 146097).tdiv 4 + 1524 = 365 * Y E q t v + Y E q t v / 4 + 1722641 := by
  obtain ⟨h, _⟩ := d
  obtain ⟨hE, rfl, rfl, rfl, rfl⟩ := hodd
  have hY4 : Y E 3 0 0 / 4 = 100 * E + 75 := by unfold Y; omega
  have hYv : Y E 3 0 0 = 400 * E + 300 := by unfold Y; omega
  have e0 : 4 * z - 7468865 = -(146097 * (1 - 4 * E) + 0) := by omega
  have e3 : 0 ≤ 1 - 4 * E := by omega
  rw [hY4, hYv, e0, td_neg _ _ e3 (by omega) (by omega), td4_neg _ e3]
  omega

/-- c, d out of b: a year y of the elder calendar, r days in it -/
theorem c_val {y r b : Int} (hb : b = 365 * y + y / 4 + r + 1722642) (h0 : 0 ≤ r) (h1 : r ≤ 365) (h2 : r = 365 → y % 4 = 3) :
    (20 * b - 2442) / 7305 = y + 4716 ∧ b - 36525 * (y + 4716) / 100 = r + 123 := by
  omega

end Go.Proofs.Qxb6604200a.Cal
