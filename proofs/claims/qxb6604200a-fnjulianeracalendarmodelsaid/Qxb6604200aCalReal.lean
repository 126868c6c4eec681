/-
  A real date, counted by julian, and the date that civil gives for that day.
-/
import Derived.Test.Qxb6604200aCalLaws
namespace Go.Proofs.Qxb6604200a.Cal

/-- the days of month m of year y -/
def daysIn (y m : Int) : Int :=
  if m = 4 ∨ m = 6 ∨ m = 9 ∨ m = 11 then 30 else if m = 2 then (if y % 4 = 0 ∧ (y % 100 ≠ 0 ∨ y % 400 = 0) then 29 else 28) else 31

/-- one of SQLite's thirteen March 1sts -/
def March (y m d : Int) : Prop := m = 3 ∧ d = 1 ∧ y ≤ 300 ∧ y % 400 = 300

theorem mp_back (k d : Int) (k0 : 0 ≤ k) (k11 : k ≤ 11) (d1 : 1 ≤ d) (hd : d ≤ 31) (h30 : k = 1 ∨ k = 3 ∨ k = 6 ∨ k = 8 → d ≤ 30) (h29 : k = 11 → d ≤ 29) :
    0 ≤ (153 * k + 2) / 5 + d - 1 ∧ (153 * k + 2) / 5 + d - 1 ≤ 365 ∧ mp ((153 * k + 2) / 5 + d - 1) = k ∧ dom ((153 * k + 2) / 5 + d - 1) = d ∧
      ((153 * k + 2) / 5 + d - 1 = 365 → k = 11 ∧ d = 29) ∧ ((153 * k + 2) / 5 + d - 1 = 0 → k = 0 ∧ d = 1) := by
  have hm : mp ((153 * k + 2) / 5 + d - 1) = k := by
    have hc : k = 0 ∨ k = 1 ∨ k = 2 ∨ k = 3 ∨ k = 4 ∨ k = 5 ∨ k = 6 ∨ k = 7 ∨ k = 8 ∨ k = 9 ∨ k = 10 ∨ k = 11 := by omega
    unfold mp
    rcases hc with rfl | rfl | rfl | rfl | rfl | rfl | rfl | rfl | rfl | rfl | rfl | rfl <;> omega
  refine ⟨by omega, by omega, hm, ?_, by omega, by omega⟩
  unfold dom
  rw [hm]
  omega

theorem year_dec (y : Int) : ∃ E q t v, Y E q t v = y ∧ 0 ≤ q ∧ q ≤ 3 ∧ 0 ≤ t ∧ t ≤ 24 ∧ 0 ≤ v ∧ v ≤ 3 := by
  refine ⟨y / 400, y % 400 / 100, y % 100 / 4, y % 4, ?_, by omega, by omega, by omega, by omega, by omega, by omega⟩
  unfold Y
  omega

theorem real_march {y k d : Int} (k0 : 0 ≤ k) (k11 : k ≤ 11) (d1 : 1 ≤ d) (hd : d ≤ 31) (h30 : k = 1 ∨ k = 3 ∨ k = 6 ∨ k = 8 → d ≤ 30) (h29 : k = 11 → d ≤ 29)
    (hleap : k = 11 → d = 29 → (y + 1) % 4 = 0 ∧ ((y + 1) % 100 ≠ 0 ∨ (y + 1) % 400 = 0)) :
    ∃ E q t v r, Dec (S y + (153 * k + 2) / 5 + d - 1) E q t v r ∧ Y E q t v = y ∧ mp r = k ∧ dom r = d ∧ (r = 0 ↔ k = 0 ∧ d = 1) ∧ r = (153 * k + 2) / 5 + d - 1 ∧ (Odd E q t v r ↔ k = 0 ∧ d = 1 ∧ y ≤ 300 ∧ y % 400 = 300) := by
  obtain ⟨E, q, t, v, hY, q0, q3, t0, t24, v0, v3⟩ := year_dec y
  obtain ⟨r0, r365, hmp, hdom, hlast, hzero⟩ := mp_back k d k0 k11 d1 hd h30 h29
  have hS := S_val (E := E) q0 q3 t0 t24 v0 v3
  rw [hY] at hS
  have hYv : y = 400 * E + 100 * q + 4 * t + v := by rw [← hY]; rfl
  refine ⟨E, q, t, v, (153 * k + 2) / 5 + d - 1, ⟨by omega, q0, q3, t0, t24, v0, v3, r0, r365, ?_⟩, hY, hmp, hdom, ⟨hzero, fun h => by omega⟩, rfl, ?_⟩
  · intro h
    obtain ⟨hk, hd29⟩ := hlast h
    have hl := hleap hk hd29
    refine ⟨by omega, fun h24 => ?_⟩
    omega
  · unfold Odd
    constructor
    · rintro ⟨hE, hq, ht, hv, hr⟩
      have := hzero hr
      omega
    · rintro ⟨hk, hd1, h300, hm⟩
      omega

theorem real_date {y m d : Int} (m1 : 1 ≤ m) (m12 : m ≤ 12) (d1 : 1 ≤ d) (hd : d ≤ daysIn y m) :
    ∃ n E q t v r, Dec n E q t v r ∧ (m ≤ 2 → S (y - 1) + (153 * (m + 12 - 3) + 2) / 5 + d - 1 = n) ∧ (2 < m → S y + (153 * (m - 3) + 2) / 5 + d - 1 = n) ∧
      (March y m d → IsDate E q t v r y 2 29) ∧ (¬ March y m d → IsDate E q t v r y m d) ∧ d ≤ 31 := by
  have hd31 : d ≤ 31 := by
    refine Int.le_trans hd ?_
    unfold daysIn
    split
    · omega
    · split
      · split <;> omega
      · omega
  have h30 : m = 4 ∨ m = 6 ∨ m = 9 ∨ m = 11 → d ≤ 30 := by
    intro h
    unfold daysIn at hd
    rw [if_pos h] at hd
    exact hd
  have h29 : m = 2 → d ≤ 29 := by
    intro h
    subst h
    unfold daysIn at hd
    simp only [show ¬ ((2 : Int) = 4 ∨ (2 : Int) = 6 ∨ (2 : Int) = 9 ∨ (2 : Int) = 11) by omega, if_false, if_true] at hd
    split at hd <;> omega
  have hleap : m = 2 → d = 29 → y % 4 = 0 ∧ (y % 100 ≠ 0 ∨ y % 400 = 0) := by
    intro h h'
    subst h h'
    unfold daysIn at hd
    simp only [show ¬ ((2 : Int) = 4 ∨ (2 : Int) = 6 ∨ (2 : Int) = 9 ∨ (2 : Int) = 11) by omega, if_false, if_true] at hd
    split at hd
    · assumption
    · omega
  by_cases h2 : m ≤ 2
  · obtain ⟨E, q, t, v, r, hD, hY, hmp, hdom, hr, _, hodd⟩ := real_march (y := y - 1) (k := m + 12 - 3) (d := d) (by omega) (by omega) d1 hd31 (by omega) (by omega)
      (fun h h' => by have := hleap (by omega) h'; omega)
    have ho : ¬ Odd E q t v r := fun h => by have := hodd.1 h; omega
    refine ⟨_, E, q, t, v, r, hD, fun _ => rfl, fun h => by omega, fun h => by have := h.1; omega, fun _ => Or.inr (Or.inr ⟨ho, by omega, by omega, by omega, by omega⟩), hd31⟩
  · obtain ⟨E, q, t, v, r, hD, hY, hmp, hdom, hr, _, hodd⟩ := real_march (y := y) (k := m - 3) (d := d) (by omega) (by omega) d1 hd31 (by omega) (by omega)
      (fun h h' => by omega)
    refine ⟨_, E, q, t, v, r, hD, fun h => by omega, fun _ => rfl, fun h => ?_, fun h => ?_, hd31⟩
    · obtain ⟨a, b, c, e⟩ := h
      exact Or.inl ⟨hodd.2 ⟨by omega, b, c, e⟩, by omega, rfl, rfl⟩
    · have ho : ¬ Odd E q t v r := by
        intro hO
        obtain ⟨a, b, c, e⟩ := hodd.1 hO
        exact h ⟨by omega, b, c, e⟩
      exact Or.inr (Or.inl ⟨ho, by omega, by omega, by omega, by omega⟩)

/-- where the julian day of a real date lies -/
theorem real_range {y m d n : Int} (y0 : -4713 ≤ y) (y1 : y ≤ 9999) (m1 : 1 ≤ m) (m12 : m ≤ 12) (d1 : 1 ≤ d) (d31 : d ≤ 31) (h30 : m = 11 → d ≤ 30)
    (hn1 : m ≤ 2 → S (y - 1) + (153 * (m + 12 - 3) + 2) / 5 + d - 1 = n) (hn2 : 2 < m → S y + (153 * (m - 3) + 2) / 5 + d - 1 = n) :
    n + 1721120 ≤ 5373484 ∧ (n + 1721120 ≤ 0 ↔ y = -4713 ∧ (m < 11 ∨ m = 11 ∧ d ≤ 24)) ∧ -1722000 ≤ n := by
  have a0 : S (-4714) = -1721753 := by decide
  have a1 : S (-4713) = -1721388 := by decide
  have a2 : S (-4712) = -1721022 := by decide
  have b1 : S 9999 = 3652059 := by decide
  have b0 : S 9998 = 3651694 := by decide
  by_cases h2 : m ≤ 2
  · have e := hn1 h2
    have u1 := S_mono (show y - 1 ≤ 9998 by omega)
    by_cases hy : y = -4713
    · subst hy
      rw [show (-4713 : Int) - 1 = -4714 by omega, a0] at e
      omega
    · have := S_mono (show -4713 ≤ y - 1 by omega)
      omega
  · have e := hn2 (by omega)
    have u1 := S_mono (show y ≤ 9999 by omega)
    by_cases hy : y = -4713
    · subst hy
      have hc : m = 3 ∨ m = 4 ∨ m = 5 ∨ m = 6 ∨ m = 7 ∨ m = 8 ∨ m = 9 ∨ m = 10 ∨ m = 11 ∨ m = 12 := by omega
      rw [a1] at e
      rcases hc with rfl | rfl | rfl | rfl | rfl | rfl | rfl | rfl | rfl | rfl <;> omega
    · have := S_mono (show -4712 ≤ y by omega)
      omega

end Go.Proofs.Qxb6604200a.Cal
