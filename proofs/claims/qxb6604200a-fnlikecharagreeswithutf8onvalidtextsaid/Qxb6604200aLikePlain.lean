/-
  Plain functions and laws for likeChar: over lists of bytes, no Go in sight.
-/
import Derived.Laws.BitsAllLaws
namespace Go.Proofs.Qxb6604200a.Like
open Go

/-- a continuation byte -/
def cont (c : UInt8) : Bool := decide (128 ≤ c.toNat) && decide (c.toNat ≤ 191)

/-- the bits that a lead byte keeps -/
def leadBits (b : Nat) : Nat :=
  if b < 224 then b % 32 else if b < 240 then b % 16 else if b < 248 then b % 8 else if b < 252 then b % 4 else if b < 254 then b % 2 else 0

def step (u : Nat) (c : UInt8) : Nat := (u * 64 + c.toNat % 64) % 4294967296

def bad (u : Nat) : Bool := decide (u < 128) || (decide (55296 ≤ u) && decide (u ≤ 57343)) || decide (u = 65534) || decide (u = 65535)

def fix (u : Nat) : Nat := if bad u then 65533 else u

/-- a rune out of a uint32 -/
def asRune (u : Nat) : Int := if u < 2147483648 then (u : Int) else (u : Int) - 4294967296

def run (l : List UInt8) : List UInt8 := l.tail.takeWhile cont

def raw (l : List UInt8) : Nat := (run l).foldl step (leadBits (l.headD 0).toNat)

def num (l : List UInt8) : Nat := if (l.headD 0).toNat < 192 then 1 else 1 + (run l).length

def chr (l : List UInt8) : Int := if (l.headD 0).toNat < 192 then ((l.headD 0).toNat : Int) else asRune (fix (raw l))

theorem lb (b : Nat) : (b < 224 → leadBits b = b % 32) ∧ (224 ≤ b → b < 240 → leadBits b = b % 16) ∧ (240 ≤ b → b < 248 → leadBits b = b % 8) ∧ (248 ≤ b → b < 252 → leadBits b = b % 4) ∧ (252 ≤ b → b < 254 → leadBits b = b % 2) ∧ (254 ≤ b → leadBits b = 0) := by
  unfold leadBits
  repeat' split
  all_goals omega

theorem lead_lt (b : Nat) : leadBits b < 4294967296 := by
  unfold leadBits
  repeat' split
  all_goals omega

theorem step_lt (u : Nat) (c : UInt8) : step u c < 4294967296 := Nat.mod_lt _ (by decide)

theorem fold_lt (l : List UInt8) : ∀ u, u < 4294967296 → l.foldl step u < 4294967296 := by
  induction l with
  | nil => intro u h; exact h
  | cons c t ih => intro u _; exact ih _ (step_lt u c)

theorem run_of (l A B : List UInt8) (h : l.tail = A ++ B) (hA : ∀ c ∈ A, cont c = true) (hB : ∀ c, B.head? = some c → cont c = false) : run l = A := by
  unfold run
  rw [h]
  clear h
  induction A with
  | nil =>
    cases B with
    | nil => rfl
    | cons b t => have := hB b rfl; simp [this]
  | cons a t ih =>
    have := hA a (by simp)
    simp only [List.cons_append, List.takeWhile_cons, this, if_true]
    rw [ih (fun c hc => hA c (by simp [hc]))]

/-- the pieces of a text at k -/
theorem tail_split (l : List UInt8) (k : Nat) (hk : 1 ≤ k) : l.tail = (l.take k).tail ++ l.drop k := by
  cases l with
  | nil => simp
  | cons a t =>
    obtain ⟨j, rfl⟩ : ∃ j, k = j + 1 := ⟨k - 1, by omega⟩
    simp

theorem take_tail_len (l : List UInt8) (k : Nat) (hk2 : k ≤ l.length) : (l.take k).tail.length = k - 1 := by
  simp; omega

theorem take_tail_snoc (l : List UInt8) (k : Nat) (hk : 1 ≤ k) (h : k < l.length) : (l.take (k + 1)).tail = (l.take k).tail ++ [l[k]] := by
  rw [List.take_succ_eq_append_getElem h]
  cases l with
  | nil => simp at h
  | cons a t =>
    obtain ⟨j, rfl⟩ : ∃ j, k = j + 1 := ⟨k - 1, by omega⟩
    simp

theorem run_end (l : List UInt8) (k : Nat) (hk : 1 ≤ k) (hk2 : k ≤ l.length) (hA : ∀ c ∈ (l.take k).tail, cont c = true) (hB : ∀ h : k < l.length, cont l[k] = false) : run l = (l.take k).tail := by
  refine run_of l _ _ (tail_split l k hk) hA ?_
  intro c hc
  by_cases h : k < l.length
  · rw [List.drop_eq_getElem_cons h] at hc
    simp only [List.head?_cons, Option.some.injEq] at hc
    rw [← hc]; exact hB h
  · rw [List.drop_eq_nil_of_le (by omega)] at hc
    simp at hc

/-! ### the bits of the walk -/
theorem and192 (c : UInt8) : (bits .and .u8 (c.toNat : Int) 192 == 128) = cont c := by
  have hc : c.toNat < 256 := c.toNat_lt
  rw [show (192 : Int) = ((192 : Nat) : Int) from rfl, u8_and_nat _ _ hc (by decide), nat_hi8_6]
  unfold cont
  rw [Bool.eq_iff_iff]
  simp
  omega

theorem or_step (u : Nat) (c : UInt8) :
    bits .or .u32 ((u : Int) * 64 % 4294967296) (bits .and .u8 (c.toNat : Int) 63 % 4294967296) = ((step u c : Nat) : Int) := by
  have hc : c.toNat < 256 := c.toNat_lt
  rw [show (63 : Int) = ((63 : Nat) : Int) from rfl, u8_and_nat _ _ hc (by decide), nat_mask6]
  rw [show (u : Int) * 64 % 4294967296 = ((u * 64 % 4294967296 : Nat) : Int) by omega]
  rw [show ((c.toNat % 64 : Nat) : Int) % 4294967296 = ((c.toNat % 64 : Nat) : Int) by omega]
  rw [u32_or_nat _ _ (by omega) (by omega)]
  rw [nat_join 6 _ _ (by omega) (by omega)]
  unfold step
  omega

theorem and_sur (u : Nat) (h : u < 4294967296) : (bits .and .u32 (u : Int) 4294965248 == 55296) = (decide (55296 ≤ u) && decide (u ≤ 57343)) := by
  rw [show (4294965248 : Int) = ((4294965248 : Nat) : Int) from rfl, u32_and_nat _ _ h (by decide), nat_hi32_11]
  rw [Bool.eq_iff_iff]
  simp
  omega

theorem and_fe (u : Nat) (h : u < 4294967296) : (bits .and .u32 (u : Int) 4294967294 == 65534) = (decide (u = 65534) || decide (u = 65535)) := by
  rw [show (4294967294 : Int) = ((4294967294 : Nat) : Int) from rfl, u32_and_nat _ _ h (by decide), nat_hi32_1]
  rw [Bool.eq_iff_iff]
  simp
  omega

theorem m3 (c : UInt8) : bits .and .u8 (c.toNat : Int) 3 = ((c.toNat % 4 : Nat) : Int) := by
  have hc : c.toNat < 256 := c.toNat_lt
  rw [show (3 : Int) = ((3 : Nat) : Int) from rfl, u8_and_nat _ _ hc (by decide), nat_mask2]
theorem m1 (c : UInt8) : bits .and .u8 (c.toNat : Int) 1 = ((c.toNat % 2 : Nat) : Int) := by
  have hc : c.toNat < 256 := c.toNat_lt
  rw [show (1 : Int) = ((1 : Nat) : Int) from rfl, u8_and_nat _ _ hc (by decide), nat_mask1]

/-! ### the pieces -/
theorem run_len (l : List UInt8) : (run l).length ≤ l.length - 1 := by
  have h := List.Sublist.length_le (List.takeWhile_sublist (p := cont) (l := l.tail))
  rw [List.length_tail] at h
  exact h

theorem num_pos (l : List UInt8) : 1 ≤ num l := by unfold num; split <;> omega

theorem num_le (l : List UInt8) (h : 0 < l.length) : num l ≤ l.length := by
  have := run_len l
  unfold num; split <;> omega

theorem takeWhile_take (p : UInt8 → Bool) (t : List UInt8) : (t.take (t.takeWhile p).length).takeWhile p = t.takeWhile p := by
  induction t with
  | nil => rfl
  | cons a t ih =>
    by_cases h : p a = true
    · simp [h, ih]
    · simp [h]

theorem run_take (l : List UInt8) : run (l.take (1 + (run l).length)) = run l := by
  cases l with
  | nil => rfl
  | cons a t =>
    unfold run
    simp only [List.tail_cons]
    rw [Nat.add_comm, List.take_succ_cons, List.tail_cons]
    exact takeWhile_take cont t

theorem take_head (l : List UInt8) (n : Nat) (h : 1 ≤ n) : (l.take n).headD 0 = l.headD 0 := by
  cases l with
  | nil => simp
  | cons a t =>
    obtain ⟨j, rfl⟩ : ∃ j, n = j + 1 := ⟨n - 1, by omega⟩
    simp

theorem num_take (l : List UInt8) : num (l.take (num l)) = num l := by
  unfold num
  by_cases h : (l.headD 0).toNat < 192
  · rw [if_pos h, take_head l 1 (by omega), if_pos h]
  · rw [if_neg h, take_head l _ (by omega), if_neg h, run_take]

theorem chr_take (l : List UInt8) : chr (l.take (num l)) = chr l := by
  unfold chr num raw
  by_cases h : (l.headD 0).toNat < 192
  · rw [if_pos h, take_head l 1 (by omega), if_pos h, if_pos h]
  · rw [if_neg h, take_head l _ (by omega), if_neg h, if_neg h, run_take]

theorem takeWhile_stop (p : UInt8 → Bool) (t : List UInt8) (h : (t.takeWhile p).length < t.length) : p (t[(t.takeWhile p).length]) = false := by
  induction t with
  | nil => simp at h
  | cons a t ih =>
    by_cases ha : p a = true
    · have h' : (t.takeWhile p).length < t.length := by simp [ha] at h; exact h
      have := ih h'
      simp only [List.takeWhile_cons, ha, if_true, List.length_cons, List.getElem_cons_succ]
      exact this
    · simp only [Bool.not_eq_true] at ha
      simp [ha]

theorem num_stop (l : List UInt8) (h1 : ¬ (l.headD 0).toNat < 192) (h : num l < l.length) : cont l[num l] = false := by
  cases l with
  | nil => simp at h
  | cons a t =>
    have e : num (a :: t) = (t.takeWhile cont).length + 1 := by
      unfold num run; rw [if_neg h1]; simp only [List.tail_cons]; omega
    have h' : (t.takeWhile cont).length < t.length := by rw [e] at h; simp at h; exact h
    have := takeWhile_stop cont t h'
    simp only [e, List.getElem_cons_succ]
    exact this

/-! ### the loop's relation: at place k the value so far is v -/
structure At (l : List UInt8) (u0 k v : Nat) : Prop where
  one : 1 ≤ k
  le : k ≤ l.length
  all : ∀ c ∈ (l.take k).tail, cont c = true
  val : v = (l.take k).tail.foldl step u0

theorem At.start (l : List UInt8) (u0 : Nat) (h : 0 < l.length) : At l u0 1 u0 := by
  cases l with
  | nil => simp at h
  | cons a t => exact ⟨Nat.le_refl _, by simp, by simp, by simp⟩

theorem At.next {l : List UInt8} {u0 k v : Nat} (a : At l u0 k v) (h : k < l.length) (hc : cont l[k] = true) : At l u0 (k + 1) (step v l[k]) := by
  refine ⟨by omega, h, ?_, ?_⟩
  · rw [take_tail_snoc l k a.one h]
    intro c hm
    rcases List.mem_append.1 hm with hm | hm
    · exact a.all c hm
    · rw [List.mem_singleton] at hm; rw [hm]; exact hc
  · rw [take_tail_snoc l k a.one h, List.foldl_append, ← a.val]; rfl

theorem At.fin {l : List UInt8} {u0 k v : Nat} (a : At l u0 k v) (hB : ∀ h : k < l.length, cont l[k] = false) : v = (run l).foldl step u0 ∧ k = 1 + (run l).length := by
  have e := run_end l k a.one a.le a.all hB
  rw [e]
  refine ⟨a.val, ?_⟩
  rw [take_tail_len l k a.le]
  have := a.one
  omega

theorem fix_low (v : Nat) (h : v < 128) : asRune (fix v) = 65533 := by
  have : bad v = true := by simp [bad, h]
  simp [fix, this, asRune]
theorem fix_sur (v : Nat) (hv : v < 4294967296) (h : bits .and .u32 (v : Int) 4294965248 = 55296) : asRune (fix v) = 65533 := by
  have e := and_sur v hv
  rw [h] at e
  have : bad v = true := by
    have e' : (decide (55296 ≤ v) && decide (v ≤ 57343)) = true := by rw [← e]; rfl
    simp only [bad, e', Bool.or_true, Bool.true_or]
  simp [fix, this, asRune]
theorem fix_any (v : Nat) (hv : v < 4294967296) (h : ((v : Int) < 128 ∨ (bits .and .u32 (v : Int) 4294965248 == 55296) = true) ∨ (bits .and .u32 (v : Int) 4294967294 == 65534) = true) : asRune (fix v) = 65533 := by
  rw [and_sur v hv, and_fe v hv] at h
  have : bad v = true := by
    simp [bad] at h ⊢
    omega
  simp [fix, this, asRune]
theorem fix_not (v : Nat) (hv : v < 4294967296) (h : (128 ≤ (v : Int) ∧ (bits .and .u32 (v : Int) 4294965248 == 55296) = false) ∧ (bits .and .u32 (v : Int) 4294967294 == 65534) = false) : asRune (fix v) = asRune v := by
  rw [and_sur v hv, and_fe v hv] at h
  have : bad v = false := by
    simp [bad] at h ⊢
    omega
  simp [fix, this]

end Go.Proofs.Qxb6604200a.Like
