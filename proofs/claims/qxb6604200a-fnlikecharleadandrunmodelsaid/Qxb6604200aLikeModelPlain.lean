/-
  Plain laws for the lead-and-run model: the value summed from the right is the value folded from the left.
-/
import Derived.Test.Qxb6604200aLikePlain
namespace Go.Proofs.Qxb6604200a.Like
open Go

theorem mul_mod_add (a n x m : Nat) : (a % m * n + x) % m = (a * n + x) % m := by
  rw [Nat.add_mod, Nat.mod_mul_mod, ← Nat.add_mod]

theorem fold_split (t : List UInt8) : ∀ u, u < 4294967296 → t.foldl step u = (u * 64 ^ t.length + t.foldl step 0) % 4294967296 := by
  induction t with
  | nil => intro u h; simp [Nat.mod_eq_of_lt h]
  | cons c t ih =>
    intro u _
    have e0 : step 0 c = c.toNat % 64 := by unfold step; omega
    rw [List.foldl_cons, List.foldl_cons, ih _ (step_lt u c), ih _ (step_lt 0 c), e0, List.length_cons]
    unfold step
    rw [mul_mod_add, Nat.add_mod_mod]
    congr 1
    rw [Nat.pow_succ, Nat.add_mul, Nat.mul_assoc, Nat.mul_comm 64, Nat.add_assoc]

theorem fold_bound (t : List UInt8) : ∀ u, t.foldl step u < (u + 1) * 64 ^ t.length := by
  induction t with
  | nil => intro u; simp
  | cons c t ih =>
    intro u
    rw [List.foldl_cons, List.length_cons]
    refine Nat.lt_of_lt_of_le (ih _) ?_
    have h : step u c + 1 ≤ (u + 1) * 64 := by
      have : step u c ≤ u * 64 + c.toNat % 64 := Nat.mod_le _ _
      omega
    rw [Nat.pow_succ, Nat.mul_comm (64 ^ t.length) 64, ← Nat.mul_assoc]
    exact Nat.mul_le_mul_right _ h

/-- the bytes at places m, m + 1, .., E - 1, folded from nothing -/
def from' (l : List UInt8) (E m : Nat) : Nat := ((l.take E).drop m).foldl step 0

theorem from_end (l : List UInt8) (E : Nat) : from' l E E = 0 := by
  unfold from'
  rw [List.drop_eq_nil_of_le (by rw [List.length_take]; omega)]
  rfl

theorem from_lt (l : List UInt8) (E m : Nat) : from' l E m < 4294967296 := fold_lt _ 0 (by decide)

theorem len_part (l : List UInt8) (E m : Nat) (hE : E ≤ l.length) : ((l.take E).drop m).length = E - m := by
  rw [List.length_drop, List.length_take]; omega

theorem from_small (l : List UInt8) (E m : Nat) (hE : E ≤ l.length) : from' l E m < 64 ^ (E - m) := by
  have := fold_bound ((l.take E).drop m) 0
  rw [len_part l E m hE] at this
  simpa [from'] using this

theorem from_cons (l : List UInt8) (E m : Nat) (hE : E ≤ l.length) (hm : m < E) (hml : m < l.length) :
    from' l E m = (l[m].toNat % 64 * 64 ^ (E - 1 - m) + from' l E (m + 1)) % 4294967296 := by
  have hlt : m < (l.take E).length := by rw [List.length_take]; omega
  have e0 : step 0 l[m] = l[m].toNat % 64 := by unfold step; omega
  have e : (l.take E).drop m = l[m] :: (l.take E).drop (m + 1) := by
    rw [List.drop_eq_getElem_cons hlt]; simp
  unfold from'
  rw [e, List.foldl_cons, e0, fold_split _ _ (by omega), len_part l E (m + 1) hE]
  rw [show E - 1 - m = E - (m + 1) by omega]

/-- six bytes and more: what stands further left has no weight in 32 bits -/
theorem from_drop (l : List UInt8) (E m : Nat) (hE : E ≤ l.length) (hm : m < E) (hml : m < l.length) (h6 : 6 ≤ E - 1 - m) : from' l E m = from' l E (m + 1) := by
  rw [from_cons l E m hE hm hml]
  obtain ⟨d, hd⟩ : ∃ d, E - 1 - m = d + 6 := ⟨E - 1 - m - 6, by omega⟩
  have : l[m].toNat % 64 * 64 ^ (d + 6) = 4294967296 * (l[m].toNat % 64 * 64 ^ d * 16) := by
    rw [Nat.pow_add]
    simp only [show 64 ^ 6 = 4294967296 * 16 from rfl]
    rw [← Nat.mul_assoc, Nat.mul_comm _ 16, ← Nat.mul_assoc, Nat.mul_comm _ 4294967296]
  rw [hd, this, Nat.mul_add_mod]
  exact Nat.mod_eq_of_lt (from_lt l E (m + 1))

theorem from_six (l : List UInt8) (E : Nat) (hE : E ≤ l.length) : ∀ m, 1 ≤ m → 6 ≤ E - m → m ≤ E → from' l E 1 = from' l E m := by
  intro m
  induction m with
  | zero => intro h; omega
  | succ m ih =>
    intro _ h6 hle
    by_cases h : m = 0
    · subst h; rfl
    · rw [ih (by omega) (by omega) (by omega)]
      exact from_drop l E m hE (by omega) (by omega) (by omega)

/-- the whole value -/
theorem raw_from (l : List UInt8) (E : Nat) (_hE1 : 1 ≤ E) (hE : E ≤ l.length) (hr : run l = (l.take E).tail) :
    raw l = (leadBits (l.headD 0).toNat * 64 ^ (E - 1) + from' l E 1) % 4294967296 := by
  unfold raw from'
  rw [hr, fold_split _ _ (lead_lt _), ← List.drop_one, len_part l E 1 hE]

theorem raw_far (l : List UInt8) (E m : Nat) (hE1 : 1 ≤ E) (hE : E ≤ l.length) (hr : run l = (l.take E).tail) (hm : 1 ≤ m) (h6 : 6 ≤ E - m) : raw l = from' l E m := by
  rw [raw_from l E hE1 hE hr, from_six l E hE m hm h6 (by omega)]
  obtain ⟨d, hd⟩ : ∃ d, E - 1 = d + 6 := ⟨E - 1 - 6, by omega⟩
  have : leadBits (l.headD 0).toNat * 64 ^ (d + 6) = 4294967296 * (leadBits (l.headD 0).toNat * 64 ^ d * 16) := by
    rw [Nat.pow_add]
    simp only [show 64 ^ 6 = 4294967296 * 16 from rfl]
    rw [← Nat.mul_assoc, Nat.mul_comm _ 16, ← Nat.mul_assoc, Nat.mul_comm _ 4294967296]
  rw [hd, this, Nat.mul_add_mod]
  exact Nat.mod_eq_of_lt (from_lt l E m)

/-! ### bits -/
theorem or_nat (a v j : Nat) (hj : j ≤ 5) (hv : v < 64 ^ j) : (v ||| (a * 2 ^ (6 * j) % 4294967296)) = (a * 64 ^ j + v) % 4294967296 := by
  rw [Nat.or_comm]
  have hj' : j = 0 ∨ j = 1 ∨ j = 2 ∨ j = 3 ∨ j = 4 ∨ j = 5 := by omega
  rcases hj' with rfl | rfl | rfl | rfl | rfl | rfl
  · rw [nat_join (6 * 0) _ _ (by simp only [Nat.reducePow, Nat.reduceMul]; omega) (by simpa using hv)]; simp only [Nat.reducePow, Nat.reduceMul] at *; omega
  · rw [nat_join (6 * 1) _ _ (by simp only [Nat.reducePow, Nat.reduceMul]; omega) (by simpa using hv)]; simp only [Nat.reducePow, Nat.reduceMul] at *; omega
  · rw [nat_join (6 * 2) _ _ (by simp only [Nat.reducePow, Nat.reduceMul]; omega) (by simpa using hv)]; simp only [Nat.reducePow, Nat.reduceMul] at *; omega
  · rw [nat_join (6 * 3) _ _ (by simp only [Nat.reducePow, Nat.reduceMul]; omega) (by simpa using hv)]; simp only [Nat.reducePow, Nat.reduceMul] at *; omega
  · rw [nat_join (6 * 4) _ _ (by simp only [Nat.reducePow, Nat.reduceMul]; omega) (by simpa using hv)]; simp only [Nat.reducePow, Nat.reduceMul] at *; omega
  · rw [nat_join (6 * 5) _ _ (by simp only [Nat.reducePow, Nat.reduceMul]; omega) (by simpa using hv)]; simp only [Nat.reducePow, Nat.reduceMul] at *; omega

theorem cast_shift (a p : Nat) : ((a : Int) * 2 ^ p % 4294967296) = ((a * 2 ^ p % 4294967296 : Nat) : Int) := by
  rw [Int.natCast_emod, Int.natCast_mul, Int.natCast_pow]; rfl

theorem or_lead (p v j : Nat) (hj : j ≤ 5) (hv : v < 64 ^ j) (hv2 : v < 4294967296) :
    bits .or .u32 (v : Int) ((p : Int) * 2 ^ (6 * j) % 4294967296) = (((p * 64 ^ j + v) % 4294967296 : Nat) : Int) := by
  rw [cast_shift, u32_or_nat _ _ hv2 (Nat.mod_lt _ (by decide)), or_nat p v j hj hv]

theorem or_byte (c : UInt8) (v j : Nat) (hj : j ≤ 5) (hv : v < 64 ^ j) (hv2 : v < 4294967296) :
    bits .or .u32 (v : Int) (bits .and .u8 (c.toNat : Int) 63 % 4294967296 * 2 ^ (6 * j) % 4294967296) = (((c.toNat % 64 * 64 ^ j + v) % 4294967296 : Nat) : Int) := by
  have hc : c.toNat < 256 := c.toNat_lt
  rw [show (63 : Int) = ((63 : Nat) : Int) from rfl, u8_and_nat _ _ hc (by decide), nat_mask6]
  rw [show ((c.toNat % 64 : Nat) : Int) % 4294967296 = ((c.toNat % 64 : Nat) : Int) by omega]
  exact or_lead _ _ _ hj hv hv2

theorem and128 (x : Nat) : (bits .and .u8 ((x : Int) % 256) 128 != 0) = decide (128 ≤ x % 256) := by
  rw [show (x : Int) % 256 = ((x % 256 : Nat) : Int) by omega, show (128 : Int) = ((128 : Nat) : Int) from rfl, u8_and_nat _ _ (Nat.mod_lt _ (by decide)) (by decide), nat_hi8_7]
  rw [Bool.eq_iff_iff]
  simp
  omega

/-- the test of the loop that counts the leading ones -/
theorem test_ones (b j : Nat) : (bits .and .u8 ((b : Int) * 2 ^ j % 256) 128 != 0) = decide (128 ≤ b * 2 ^ j % 256) := by
  rw [← and128]
  rw [Int.natCast_mul, Int.natCast_pow]; rfl

structure Ones (b j : Nat) : Prop where
  all : ∀ i, i < j → 128 ≤ b * 2 ^ i % 256

theorem Ones.zero (b : Nat) : Ones b 0 := ⟨fun i h => by omega⟩
theorem Ones.next {b j : Nat} (o : Ones b j) (h : (bits .and .u8 ((b : Int) * 2 ^ j % 256) 128 != 0) = true) : Ones b (j + 1) := by
  rw [test_ones, decide_eq_true_eq] at h
  exact ⟨fun i hi => if e : i = j then by rw [e]; exact h else o.all i (by omega)⟩

theorem Ones.pay {b j : Nat} (o : Ones b j) (hb : 192 ≤ b) (hb2 : b < 256) (hj : j < 7) (h : (bits .and .u8 ((b : Int) * 2 ^ j % 256) 128 != 0) = false) :
    bits .and .u32 ((b : Int) % 4294967296) ((2 ^ (7 - j) - 1) % 4294967296) = ((leadBits b : Nat) : Int) := by
  rw [test_ones, decide_eq_false_iff_not] at h
  have L := lb b
  have a := o.all
  rw [show (b : Int) % 4294967296 = ((b : Nat) : Int) by omega]
  have hj' : j = 0 ∨ j = 1 ∨ j = 2 ∨ j = 3 ∨ j = 4 ∨ j = 5 ∨ j = 6 := by omega
  rcases hj' with rfl | rfl | rfl | rfl | rfl | rfl | rfl
  · simp only [Nat.reducePow] at h; omega
  · simp only [Nat.reducePow] at h; omega
  · have a1 := a 1 (by omega)
    simp only [Nat.reducePow] at h a1
    rw [show ((2 : Int) ^ (7 - 2) - 1) % 4294967296 = ((31 : Nat) : Int) from rfl, u32_and_nat _ _ (by omega) (by decide), nat_mask5, L.1 (by omega)]
  · have a1 := a 1 (by omega)
    have a2 := a 2 (by omega)
    simp only [Nat.reducePow] at h a1 a2
    rw [show ((2 : Int) ^ (7 - 3) - 1) % 4294967296 = ((15 : Nat) : Int) from rfl, u32_and_nat _ _ (by omega) (by decide), nat_mask4, L.2.1 (by omega) (by omega)]
  · have a1 := a 1 (by omega)
    have a2 := a 2 (by omega)
    have a3 := a 3 (by omega)
    simp only [Nat.reducePow] at h a1 a2 a3
    rw [show ((2 : Int) ^ (7 - 4) - 1) % 4294967296 = ((7 : Nat) : Int) from rfl, u32_and_nat _ _ (by omega) (by decide), nat_mask3, L.2.2.1 (by omega) (by omega)]
  · have a1 := a 1 (by omega)
    have a2 := a 2 (by omega)
    have a3 := a 3 (by omega)
    have a4 := a 4 (by omega)
    simp only [Nat.reducePow] at h a1 a2 a3 a4
    rw [show ((2 : Int) ^ (7 - 5) - 1) % 4294967296 = ((3 : Nat) : Int) from rfl, u32_and_nat _ _ (by omega) (by decide), nat_mask2, L.2.2.2.1 (by omega) (by omega)]
  · have a1 := a 1 (by omega)
    have a2 := a 2 (by omega)
    have a3 := a 3 (by omega)
    have a4 := a 4 (by omega)
    have a5 := a 5 (by omega)
    simp only [Nat.reducePow] at h a1 a2 a3 a4 a5
    rw [show ((2 : Int) ^ (7 - 6) - 1) % 4294967296 = ((1 : Nat) : Int) from rfl, u32_and_nat _ _ (by omega) (by decide), nat_mask1, L.2.2.2.2.1 (by omega) (by omega)]

theorem Ones.pay' {b j : Nat} (o : Ones b j) (hb : 192 ≤ b) (hb2 : b < 256) (hj : j < 7) (h : (bits .and .u8 ((b : Int) * 2 ^ j % 256) 128 != 0) = false) :
    bits .and .u32 (b : Int) ((2 ^ (7 - j) - 1) % 4294967296) = ((leadBits b : Nat) : Int) := by
  have := o.pay hb hb2 hj h
  rw [show (b : Int) % 4294967296 = (b : Int) by omega] at this
  exact this

theorem Ones.none {b j : Nat} (o : Ones b j) (hb : 192 ≤ b) (hb2 : b < 256) (hj : 7 ≤ j) : leadBits b = 0 := by
  have L := lb b
  have a1 := o.all 1 (by omega)
  have a2 := o.all 2 (by omega)
  have a3 := o.all 3 (by omega)
  have a4 := o.all 4 (by omega)
  have a5 := o.all 5 (by omega)
  have a6 := o.all 6 (by omega)
  simp only [Nat.reducePow] at a1 a2 a3 a4 a5 a6
  exact L.2.2.2.2.2 (by omega)

theorem run_take_eq (l : List UInt8) (h : 0 < l.length) : run l = (l.take (1 + (run l).length)).tail := by
  cases l with
  | nil => simp at h
  | cons a t =>
    unfold run
    simp only [List.tail_cons]
    rw [Nat.add_comm, List.take_succ_cons, List.tail_cons]
    exact (List.prefix_iff_eq_take.1 (List.takeWhile_prefix cont))

theorem all_takeWhile {t : List UInt8} (c : UInt8) (h : c ∈ t.takeWhile cont) : cont c = true := by
  induction t with
  | nil => simp at h
  | cons a t ih =>
    by_cases ha : cont a = true
    · rw [List.takeWhile_cons, if_pos ha] at h
      rcases List.mem_cons.1 h with e | e
      · rw [e]; exact ha
      · exact ih e
    · rw [List.takeWhile_cons, if_neg ha] at h
      simp at h

theorem run_in (l : List UInt8) (k : Nat) (hk : 1 ≤ k) (h : k < 1 + (run l).length) (hl : k < l.length) : cont l[k] = true := by
  cases l with
  | nil => simp at hl
  | cons a t =>
    obtain ⟨j, rfl⟩ : ∃ j, k = j + 1 := ⟨k - 1, by omega⟩
    have hj : j < (t.takeWhile cont).length := by
      have : (run (a :: t)).length = (t.takeWhile cont).length := rfl
      omega
    have hj' : j < t.length := by simpa using hl
    have e : (t.takeWhile cont)[j] = t[j] := (List.takeWhile_prefix cont).getElem hj
    simp only [List.getElem_cons_succ]
    rw [← e]
    have hm : (t.takeWhile cont)[j] ∈ t.takeWhile cont := List.getElem_mem hj
    exact all_takeWhile _ hm

end Go.Proofs.Qxb6604200a.Like
