/-
  What civil's integers come to: the date of the day; the era algorithm's date; the julian day of a date.
-/
import Derived.Test.Qxb6604200aCal
namespace Go.Proofs.Qxb6604200a.Cal

/-- the date that civil gives -/
def IsDate (E q t v r y m d : Int) : Prop :=
  (Odd E q t v r ∧ y = Y E q t v ∧ m = 2 ∧ d = 29) ∨
  (¬ Odd E q t v r ∧ mp r < 10 ∧ y = Y E q t v ∧ m = mp r + 3 ∧ d = dom r) ∨
  (¬ Odd E q t v r ∧ 10 ≤ mp r ∧ y = Y E q t v + 1 ∧ m = mp r - 9 ∧ d = dom r)

theorem odd_or (E q t v r : Int) : Odd E q t v r ∨ ¬ Odd E q t v r := Classical.em _

theorem date_ex {n E q t v r : Int} (_d : Dec n E q t v r) : ∃ y m d, IsDate E q t v r y m d := by
  rcases odd_or E q t v r with h | h
  · exact ⟨_, _, _, Or.inl ⟨h, rfl, rfl, rfl⟩⟩
  · by_cases h10 : mp r < 10
    · exact ⟨_, _, _, Or.inr (Or.inl ⟨h, h10, rfl, rfl, rfl⟩)⟩
    · exact ⟨_, _, _, Or.inr (Or.inr ⟨h, by omega, rfl, rfl, rfl⟩)⟩

/-- civil's own numbers on the way from z to the date y, m, d -/
structure CivOut (z y m d A B C D e : Int) : Prop where
  hA : A = (4 * z - 7468865).tdiv 146097
  hB : B = z + 1 + A - A.tdiv 4 + 1524
  hC : C = (20 * B - 2442) / 7305
  hD : D = 36525 * C / 100
  hE : e = (B - D) * 10000 / 306001
  bA1 : -60 ≤ A
  bA2 : A ≤ 100
  bT1 : -20 ≤ A.tdiv 4
  bT2 : A.tdiv 4 ≤ 30
  bB1 : 1000 ≤ B
  bB2 : B ≤ 6000000
  bC1 : 0 ≤ C
  bC2 : C < 32768
  bD1 : 0 ≤ B - D
  bD2 : B - D < 500
  out : (4 ≤ e ∧ e ≤ 13 ∧ m = e - 1 ∧ y = C - 4716) ∨ (14 ≤ e ∧ e ≤ 15 ∧ m = e - 13 ∧ y = C - 4715)
  day : d = B - D - 306001 * e / 10000

theorem a_bounds (z : Int) (h0 : 0 ≤ z) (h1 : z ≤ 5373484) :
    -60 ≤ (4 * z - 7468865).tdiv 146097 ∧ (4 * z - 7468865).tdiv 146097 ≤ 100 ∧ -20 ≤ ((4 * z - 7468865).tdiv 146097).tdiv 4 ∧ ((4 * z - 7468865).tdiv 146097).tdiv 4 ≤ 30 := by
  by_cases h : 0 ≤ 4 * z - 7468865
  · rw [Int.tdiv_eq_ediv_of_nonneg h, td4_pos _ (by omega)]
    omega
  · have e : 4 * z - 7468865 = -(7468865 - 4 * z) := by omega
    rw [e, Int.neg_tdiv, Int.tdiv_eq_ediv_of_nonneg (by omega), td4_neg _ (by omega)]
    omega

theorem civ_out (z : Int) (h0 : 0 ≤ z) (h1 : z ≤ 5373484) {E q t v r y m d : Int} (hd : Dec (z - 1721120) E q t v r) (hdate : IsDate E q t v r y m d) :
    ∃ A B C D e, CivOut z y m d A B C D e := by
  obtain ⟨b1, b2, b3, b4⟩ := a_bounds z h0 h1
  have hz : z = (z - 1721120) + 1721120 := by omega
  rcases odd_or E q t v r with ho | ho
  · -- one of the thirteen
    have hB := a_odd hd hz ho
    rcases hdate with ⟨_, hy, hm, hdd⟩ | ⟨h, _⟩ | ⟨h, _⟩
    · obtain ⟨hE, hq, ht, hv, hr⟩ := ho
      have hYv : Y E q t v = 400 * E + 300 := by unfold Y; omega
      obtain ⟨A, hA⟩ : ∃ A, A = (4 * z - 7468865).tdiv 146097 := ⟨_, rfl⟩
      rw [← hA] at hB b1 b2 b3 b4
      obtain ⟨B, hBv⟩ : ∃ B, B = z + 1 + A - A.tdiv 4 + 1524 := ⟨_, rfl⟩
      have hB' : B = 365 * (Y E q t v - 1) + (Y E q t v - 1) / 4 + 365 + 1722642 := by
        rw [hBv, hB, hYv]; omega
      obtain ⟨c1, c2⟩ := c_val hB' (by omega) (by omega) (fun _ => by rw [hYv]; omega)
      obtain ⟨e1, e2⟩ := e_val (r := 365) (by omega) (by omega)
      have m365 : mp 365 = 11 := by decide
      have d365 : dom 365 = 29 := by decide
      rw [m365] at e1 e2
      rw [d365] at e2
      have bB1 : 1000 ≤ B := by omega
      have bB2 : B ≤ 6000000 := by omega
      refine ⟨A, B, _, _, _, hA, hBv, rfl, rfl, rfl, b1, b2, b3, b4, bB1, bB2, by omega, by omega, ?_, ?_, ?_, ?_⟩
      · rw [c1, c2]; omega
      · rw [c1, c2]; omega
      · right
        rw [c1, c2, e1, hm, hy]
        omega
      · rw [c1, c2, e1, e2]; exact hdd
    · exact absurd ho h
    · exact absurd ho h
  · have hB := a_val hd hz ho
    obtain ⟨A, hA⟩ : ∃ A, A = (4 * z - 7468865).tdiv 146097 := ⟨_, rfl⟩
    rw [← hA] at hB b1 b2 b3 b4
    obtain ⟨B, hBv⟩ : ∃ B, B = z + 1 + A - A.tdiv 4 + 1524 := ⟨_, rfl⟩
    have hB' : B = 365 * Y E q t v + Y E q t v / 4 + r + 1722642 := by rw [hBv, hB]
    have hlast : r = 365 → Y E q t v % 4 = 3 := by
      intro h
      have := (hd.last h).1
      unfold Y; omega
    obtain ⟨c1, c2⟩ := c_val hB' hd.r0 hd.r365 hlast
    obtain ⟨e1, e2⟩ := e_val hd.r0 hd.r365
    obtain ⟨m1, m2, _⟩ := mp_bounds hd.r0 hd.r365
    have bB1 : 1000 ≤ B := by omega
    have bB2 : B ≤ 6000000 := by omega
    have r0 := hd.r0
    have r1 := hd.r365
    refine ⟨A, B, _, _, _, hA, hBv, rfl, rfl, rfl, b1, b2, b3, b4, bB1, bB2, by omega, by omega, ?_, ?_, ?_, ?_⟩
    · rw [c1, c2]; omega
    · rw [c1, c2]; omega
    · rw [c1, c2, e1]
      rcases hdate with ⟨h, _⟩ | ⟨_, h10, hy, hm, _⟩ | ⟨_, h10, hy, hm, _⟩
      · exact absurd h ho
      · left; omega
      · right; omega
    · rw [c1, c2, e1, e2]
      rcases hdate with ⟨h, _⟩ | ⟨_, _, _, _, hdd⟩ | ⟨_, _, _, _, hdd⟩
      · exact absurd h ho
      · exact hdd
      · exact hdd

/-! ### the era algorithm -/
theorem yoe_val {q t v r : Int} (q0 : 0 ≤ q) (q3 : q ≤ 3) (t0 : 0 ≤ t) (t24 : t ≤ 24) (v0 : 0 ≤ v) (v3 : v ≤ 3) (r0 : 0 ≤ r) (r1 : r ≤ 365) (hl : r = 365 → v = 3 ∧ (t = 24 → q = 3))
    (s : Int) (hs : s = 36524 * q + 1461 * t + 365 * v + r) :
    (s - s / 1460 + s / 36524 - s / 146096) / 365 = 100 * q + 4 * t + v := by
  by_cases htop : t = 24 ∧ v = 3 ∧ r = 365
  · obtain ⟨rfl, rfl, rfl⟩ := htop
    obtain rfl : q = 3 := (hl rfl).2 rfl
    subst hs
    decide
  · have hle : 1461 * t + 365 * v + r ≤ 36523 := by omega
    have h1 : s / 36524 = q := by
      rw [hs, show 36524 * q + 1461 * t + 365 * v + r = (1461 * t + 365 * v + r) + 36524 * q by omega, Int.add_mul_ediv_left _ _ (by decide), Int.ediv_eq_zero_of_lt (by omega) (by omega)]
      omega
    have h2 : s / 146096 = 0 := Int.ediv_eq_zero_of_lt (by omega) (by omega)
    obtain ⟨w, hw⟩ : ∃ w, w = (24 * q + t + 365 * v + r) / 1460 := ⟨_, rfl⟩
    have h3 : s / 1460 = 25 * q + t + w := by
      rw [hs, hw, show 36524 * q + 1461 * t + 365 * v + r = (24 * q + t + 365 * v + r) + 1460 * (25 * q + t) by omega, Int.add_mul_ediv_left _ _ (by decide)]
      omega
    have hw0 : 0 ≤ w := by omega
    have hw1 : w ≤ 1 := by omega
    have hw2 : w = 1 → 1 ≤ r := by omega
    have hw3 : r = 365 → w = 1 := by
      intro h
      have := (hl h).1
      omega
    rw [h1, h2, h3, hs, show 36524 * q + 1461 * t + 365 * v + r - (25 * q + t + w) + q - 0 = (r - w) + 365 * (100 * q + 4 * t + v) by omega, Int.add_mul_ediv_left _ _ (by decide), Int.ediv_eq_zero_of_lt (by omega) (by omega)]
    omega

theorem era_vals {n E q t v r : Int} (d : Dec n E q t v r) :
    n / 146097 = E ∧ (n - 146097 * E - (n - 146097 * E) / 1460 + (n - 146097 * E) / 36524 - (n - 146097 * E) / 146096) / 365 = 100 * q + 4 * t + v ∧
      n - 146097 * E - (365 * (100 * q + 4 * t + v) + (100 * q + 4 * t + v) / 4 - (100 * q + 4 * t + v) / 100) = r ∧ 0 ≤ n - 146097 * E ∧ n - 146097 * E < 146097 := by
  obtain ⟨h, q0, q3, t0, t24, v0, v3, r0, r1, hl⟩ := d
  obtain ⟨s, hs⟩ : ∃ s, s = 36524 * q + 1461 * t + 365 * v + r := ⟨_, rfl⟩
  have hns : n - 146097 * E = s := by omega
  have hslt : s < 146097 := by
    by_cases htop : r = 365
    · have := hl htop; omega
    · omega
  have hE : n / 146097 = E := by omega
  rw [hns]
  refine ⟨hE, yoe_val q0 q3 t0 t24 v0 v3 r0 r1 hl s hs, ?_, by omega, hslt⟩
  have e1 : (100 * q + 4 * t + v) / 4 = 25 * q + t := by omega
  have e2 : (100 * q + 4 * t + v) / 100 = q := by omega
  rw [e1, e2, hs]
  omega

/-- the days of the March years before Y -/
def S (y : Int) : Int := 365 * y + y / 4 - y / 100 + y / 400

theorem S_val {E q t v : Int} (q0 : 0 ≤ q) (q3 : q ≤ 3) (t0 : 0 ≤ t) (t24 : t ≤ 24) (v0 : 0 ≤ v) (v3 : v ≤ 3) :
    S (Y E q t v) = 146097 * E + 36524 * q + 1461 * t + 365 * v := by
  have e1 : Y E q t v / 4 = 100 * E + 25 * q + t := by unfold Y; omega
  have e2 : Y E q t v / 100 = 4 * E + q := by unfold Y; omega
  have e3 : Y E q t v / 400 = E := by unfold Y; omega
  unfold S
  rw [e1, e2, e3]
  unfold Y
  omega

/-- julian's count of days, from a March year y and a month mo of 3 to 14 -/
theorem jul_val (y mo d : Int) (m3 : 3 ≤ mo) (m14 : mo ≤ 14) :
    36525 * (y + 4716) / 100 + 306001 * (mo + 1) / 10000 + d + (38 - (y + 4800) / 100 + (y + 4800) / 100 / 4) = S y + (153 * (mo - 3) + 2) / 5 + d - 1 + 1722644 := by
  have e1 : (y + 4800) / 100 = y / 100 + 48 := by omega
  have e2 : (y / 100 + 48) / 4 = y / 400 + 12 := by omega
  have e3 : 36525 * (y + 4716) / 100 = 365 * y + y / 4 + 1722519 := by omega
  have e4 : 306001 * (mo + 1) / 10000 = 122 + (153 * (mo - 3) + 2) / 5 := by
    have hc : mo = 3 ∨ mo = 4 ∨ mo = 5 ∨ mo = 6 ∨ mo = 7 ∨ mo = 8 ∨ mo = 9 ∨ mo = 10 ∨ mo = 11 ∨ mo = 12 ∨ mo = 13 ∨ mo = 14 := by omega
    rcases hc with rfl | rfl | rfl | rfl | rfl | rfl | rfl | rfl | rfl | rfl | rfl | rfl <;> decide
  rw [e1, e2, e3, e4]
  unfold S
  omega

/-- the era algorithm's count -/
theorem era_days (y : Int) : y / 400 * 146097 + ((y - y / 400 * 400) * 365 + (y - y / 400 * 400) / 4 - (y - y / 400 * 400) / 100) = S y := by
  have e1 : (y - y / 400 * 400) / 4 = y / 4 - y / 400 * 100 := by omega
  have e2 : (y - y / 400 * 400) / 100 = y / 100 - y / 400 * 4 := by omega
  rw [e1, e2]
  unfold S
  omega

end Go.Proofs.Qxb6604200a.Cal
