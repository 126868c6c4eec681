/-
  The plain laws of the calendar: order, bounds, there and back.
-/
import Derived.Test.Qxb6604200aCalCiv
namespace Go.Proofs.Qxb6604200a.Cal

theorem S_mono {a b : Int} (h : a ≤ b) : S a ≤ S b := by unfold S; omega

theorem dec_S {n E q t v r : Int} (d : Dec n E q t v r) : n = S (Y E q t v) + r := by
  rw [S_val d.q0 d.q3 d.t0 d.t24 d.v0 d.v3]; exact d.val

theorem dec_before {n E q t v r : Int} (d : Dec n E q t v r) : n < S (Y E q t v + 1) := by
  have hn := dec_S d
  by_cases h : r = 365
  · obtain ⟨hv, ht⟩ := d.last h
    have q0 := d.q0; have q3 := d.q3; have t0 := d.t0; have t24 := d.t24
    have hY : Y E q t v = 400 * E + 100 * q + 4 * t + 3 := by unfold Y; omega
    obtain ⟨y, hy⟩ : ∃ y, y = Y E q t v := ⟨_, rfl⟩
    rw [← hy] at hn hY ⊢
    have e1 : (y + 1) / 4 = y / 4 + 1 := by omega
    have e2 : (y + 1) / 100 - (y + 1) / 400 = y / 100 - y / 400 := by
      by_cases h24 : t = 24
      · have := ht h24
        have a : y / 100 = 4 * E + 3 := by omega
        have b : y / 400 = E := by omega
        have c : (y + 1) / 100 = 4 * E + 4 := by omega
        have e : (y + 1) / 400 = E + 1 := by omega
        omega
      · have a : y / 100 = 4 * E + q := by omega
        have b : y / 400 = E := by omega
        have c : (y + 1) / 100 = 4 * E + q := by omega
        have e : (y + 1) / 400 = E := by omega
        omega
    unfold S at hn ⊢
    omega
  · have r1 := d.r365
    have : S (Y E q t v) + 365 ≤ S (Y E q t v + 1) := by unfold S; omega
    omega

theorem dec_lt {n n' E q t v r E' q' t' v' r' : Int} (d : Dec n E q t v r) (d' : Dec n' E' q' t' v' r') (h : n < n') :
    Y E q t v < Y E' q' t' v' ∨ (Y E q t v = Y E' q' t' v' ∧ r < r') := by
  have h1 := dec_S d
  have h2 := dec_S d'
  have h3 := dec_before d'
  have r0 := d.r0
  rcases Int.lt_trichotomy (Y E q t v) (Y E' q' t' v') with hlt | heq | hgt
  · exact Or.inl hlt
  · refine Or.inr ⟨heq, ?_⟩
    rw [heq] at h1
    omega
  · have := S_mono (show Y E' q' t' v' + 1 ≤ Y E q t v by omega)
    omega

/-- the key by which dates are ordered -/
theorem key_val {n E q t v r y m d : Int} (_hd : Dec n E q t v r) (h : IsDate E q t v r y m d) :
    (Odd E q t v r ∧ 512 * y + 32 * m + d = 512 * Y E q t v + 93) ∨ (¬ Odd E q t v r ∧ mp r < 10 ∧ 512 * y + 32 * m + d = 512 * Y E q t v + 32 * (mp r + 3) + dom r) ∨
      (¬ Odd E q t v r ∧ 10 ≤ mp r ∧ 512 * y + 32 * m + d = 512 * Y E q t v + 32 * (mp r + 7) + dom r) := by
  rcases h with ⟨ho, hy, hm, hdd⟩ | ⟨ho, h10, hy, hm, hdd⟩ | ⟨ho, h10, hy, hm, hdd⟩
  · left; exact ⟨ho, by omega⟩
  · right; left; exact ⟨ho, h10, by omega⟩
  · right; right; exact ⟨ho, h10, by omega⟩

theorem mp_mono {a b : Int} (h : a ≤ b) : mp a ≤ mp b := by unfold mp; omega
theorem dom_lt {a b : Int} (h : a < b) (e : mp a = mp b) : dom a < dom b := by unfold dom; rw [e]; omega

theorem key_lt {n n' E q t v r E' q' t' v' r' y m d y' m' d' : Int} (hd : Dec n E q t v r) (hd' : Dec n' E' q' t' v' r') (hi : IsDate E q t v r y m d) (hi' : IsDate E' q' t' v' r' y' m' d') (h : n < n') :
    512 * y + 32 * m + d < 512 * y' + 32 * m' + d' := by
  have k := key_val hd hi
  have k' := key_val hd' hi'
  obtain ⟨a1, a2, a3, a4, a5⟩ := mp_bounds hd.r0 hd.r365
  obtain ⟨b1, b2, b3, b4, b5⟩ := mp_bounds hd'.r0 hd'.r365
  rcases dec_lt hd hd' h with hY | ⟨hY, hr⟩
  · -- an earlier year
    obtain ⟨Y1, h1⟩ : ∃ Y1, Y1 = Y E q t v := ⟨_, rfl⟩
    obtain ⟨Y2, h2⟩ : ∃ Y2, Y2 = Y E' q' t' v' := ⟨_, rfl⟩
    rw [← h1] at k hY
    rw [← h2] at k' hY
    -- the last days of Y1 against the odd first day of Y2: r = 365 cannot be there
    by_cases ho' : Odd E' q' t' v' r'
    · have hk' : 512 * y' + 32 * m' + d' = 512 * Y2 + 93 := by
        rcases k' with ⟨_, e⟩ | ⟨h, _⟩ | ⟨h, _⟩
        · exact e
        · exact absurd ho' h
        · exact absurd ho' h
      by_cases hnext : Y1 + 1 = Y2
      · -- Y2 = 400 E' + 300: Y1 has 365 days
        obtain ⟨_, rfl, rfl, rfl, rfl⟩ := ho'
        have hr364 : r ≤ 364 := by
          have q0 := hd.q0; have q3 := hd.q3; have t0 := hd.t0; have t24 := hd.t24; have v0 := hd.v0; have v3 := hd.v3
          have r365 := hd.r365
          by_cases h365 : r = 365
          · exfalso
            obtain ⟨hv, ht⟩ := hd.last h365
            unfold Y at h1 h2
            by_cases h24 : t = 24
            · have := ht h24; omega
            · omega
          · omega
        have hdom : mp r = 11 → dom r ≤ 28 := by intro h; unfold dom; rw [h]; omega
        rcases k with ⟨_, e⟩ | ⟨_, _, e⟩ | ⟨_, _, e⟩ <;> omega
      · rcases k with ⟨_, e⟩ | ⟨_, _, e⟩ | ⟨_, _, e⟩ <;> omega
    · rcases k' with ⟨h, _⟩ | ⟨_, _, e'⟩ | ⟨_, _, e'⟩
      · exact absurd h ho'
      · rcases k with ⟨_, e⟩ | ⟨_, _, e⟩ | ⟨_, _, e⟩ <;> omega
      · rcases k with ⟨_, e⟩ | ⟨_, _, e⟩ | ⟨_, _, e⟩ <;> omega
  · have hm := mp_mono (Int.le_of_lt hr)
    have hdm := dom_lt hr
    have hr0 := hd.r0
    have ho' : ¬ Odd E' q' t' v' r' := by
      rintro ⟨_, _, _, _, h0⟩
      omega
    rw [hY] at k
    rcases k' with ⟨h, _⟩ | ⟨_, _, e'⟩ | ⟨_, _, e'⟩
    · exact absurd h ho'
    · rcases k with ⟨_, e⟩ | ⟨_, _, e⟩ | ⟨_, _, e⟩ <;> omega
    · rcases k with ⟨_, e⟩ | ⟨_, _, e⟩ | ⟨_, _, e⟩ <;> omega

/-- the dates lie within the years that SQLite writes -/
theorem date_bounds {z E q t v r y m d : Int} (h0 : 0 ≤ z) (h1 : z ≤ 5373484) (hd : Dec (z - 1721120) E q t v r) (hi : IsDate E q t v r y m d) :
    -4713 ≤ y ∧ y ≤ 9999 ∧ 1 ≤ m ∧ m ≤ 12 ∧ 1 ≤ d ∧ d ≤ 31 := by
  have hn := dec_S hd
  have hb := dec_before hd
  obtain ⟨a1, a2, a3, a4, a5⟩ := mp_bounds hd.r0 hd.r365
  have r0 := hd.r0
  obtain ⟨y0, hy0⟩ : ∃ y0, y0 = Y E q t v := ⟨_, rfl⟩
  rw [← hy0] at hn hb
  have lo : -4713 ≤ y0 := by
    refine Int.not_lt.1 fun h => ?_
    have := S_mono (show y0 + 1 ≤ -4713 by omega)
    have e : S (-4713) = -1721388 := by decide
    omega
  have hi9 : y0 ≤ 9999 := by
    refine Int.not_lt.1 fun h => ?_
    have := S_mono (show 10000 ≤ y0 by omega)
    have e : S 10000 = 3652425 := by decide
    omega
  have hlast : y0 = 9999 → mp r < 10 := by
    intro h
    rw [h] at hn
    have e : S 9999 = 3652059 := by decide
    have : r ≤ 305 := by omega
    unfold mp; omega
  rcases hi with ⟨_, hy, hm, hdd⟩ | ⟨_, h10, hy, hm, hdd⟩ | ⟨_, h10, hy, hm, hdd⟩
  · omega
  · omega
  · omega

/-- julian's count of the date that civil gave: the day itself. my, mm: the March year and its month, as julian turns them -/
theorem back {n E q t v r y m d : Int} (hd : Dec n E q t v r) (hi : IsDate E q t v r y m d) :
    (m ≤ 2 → S (y - 1) + (153 * (m + 12 - 3) + 2) / 5 + d - 1 = n) ∧ (2 < m → S y + (153 * (m - 3) + 2) / 5 + d - 1 = n) := by
  have hn := dec_S hd
  obtain ⟨a1, a2, a3, a4, a5⟩ := mp_bounds hd.r0 hd.r365
  rcases hi with ⟨ho, hy, hm, hdd⟩ | ⟨_, h10, hy, hm, hdd⟩ | ⟨_, h10, hy, hm, hdd⟩
  · obtain ⟨_, rfl, rfl, rfl, rfl⟩ := ho
    subst hm hdd
    refine ⟨fun _ => ?_, fun h => by omega⟩
    have hY : Y E 3 0 0 = 400 * E + 300 := by unfold Y; omega
    have : S (y - 1) + 365 = S y := by
      rw [hy, hY]; unfold S; omega
    rw [← hy] at hn
    omega
  · refine ⟨fun h => by omega, fun _ => ?_⟩
    rw [hm, hdd, hy, show mp r + 3 - 3 = mp r by omega]
    unfold dom
    omega
  · refine ⟨fun _ => ?_, fun h => by omega⟩
    rw [hm, hdd, hy, show mp r - 9 + 12 - 3 = mp r by omega, show Y E q t v + 1 - 1 = Y E q t v by omega]
    unfold dom
    omega

end Go.Proofs.Qxb6604200a.Cal
