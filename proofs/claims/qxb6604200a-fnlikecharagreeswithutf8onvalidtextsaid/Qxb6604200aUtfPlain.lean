/-
  Plain laws on well-formed UTF-8: what one sequence is, and that likeChar reads it so.
-/
import Derived.Test.Qxb6604200aLikePlain
namespace Go.Proofs.Qxb6604200a.Like
open Go

/-- the classes of lead bytes: the length, the least and the greatest second byte -/
def Cls (b sz lo hi : Nat) : Prop :=
  (194 ≤ b ∧ b ≤ 223 ∧ sz = 2 ∧ lo = 128 ∧ hi = 191) ∨ (b = 224 ∧ sz = 3 ∧ lo = 160 ∧ hi = 191) ∨
  (225 ≤ b ∧ b ≤ 239 ∧ b ≠ 237 ∧ sz = 3 ∧ lo = 128 ∧ hi = 191) ∨ (b = 237 ∧ sz = 3 ∧ lo = 128 ∧ hi = 159) ∨
  (b = 240 ∧ sz = 4 ∧ lo = 144 ∧ hi = 191) ∨ (241 ≤ b ∧ b ≤ 243 ∧ sz = 4 ∧ lo = 128 ∧ hi = 191) ∨ (b = 244 ∧ sz = 4 ∧ lo = 128 ∧ hi = 143)

/-- a well-formed sequence of n bytes at the head of l, with the value v -/
def Good (l : List UInt8) (n v : Nat) : Prop :=
  ((l.headD 0).toNat < 128 ∧ n = 1 ∧ v = (l.headD 0).toNat) ∨
  ∃ lo hi, Cls (l.headD 0).toNat n lo hi ∧ At l (leadBits (l.headD 0).toNat) n v ∧ lo ≤ (l.getD 1 0).toNat ∧ (l.getD 1 0).toNat ≤ hi

theorem Cls.lead {b sz lo hi : Nat} (c : Cls b sz lo hi) : 194 ≤ b ∧ b ≤ 244 ∧ 2 ≤ sz ∧ sz ≤ 4 ∧ 128 ≤ lo ∧ hi ≤ 191 := by
  unfold Cls at c; omega

theorem Cls.same {b sz lo hi sz' lo' hi' : Nat} (c : Cls b sz lo hi) (c' : Cls b sz' lo' hi') : sz = sz' ∧ lo = lo' ∧ hi = hi' := by
  unfold Cls at c c'; omega

theorem Good.pos {l : List UInt8} {n v : Nat} (g : Good l n v) : 1 ≤ n := by
  rcases g with ⟨_, h, _⟩ | ⟨lo, hi, c, _⟩
  · omega
  · have := c.lead; omega

theorem Good.le {l : List UInt8} {n v : Nat} (g : Good l n v) (hl : 0 < l.length) : n ≤ l.length := by
  rcases g with ⟨_, h, _⟩ | ⟨lo, hi, c, a, _⟩
  · omega
  · exact a.le

theorem Good.head {l : List UInt8} {n v : Nat} (g : Good l n v) : cont (l.headD 0) = false := by
  have key : (l.headD 0).toNat < 128 ∨ 191 < (l.headD 0).toNat := by
    rcases g with ⟨h, _, _⟩ | ⟨lo, hi, c, a, _⟩
    · omega
    · have := c.lead; omega
  unfold cont
  generalize (l.headD 0).toNat = b at key
  simp
  omega

/-- no sequence: a bad lead -/
theorem not_lead {l : List UInt8} (h1 : 128 ≤ (l.headD 0).toNat) (h : ∀ sz lo hi, ¬ Cls (l.headD 0).toNat sz lo hi) (n v : Nat) : ¬ Good l n v := by
  rintro (⟨h', _, _⟩ | ⟨lo, hi, c, _⟩)
  · omega
  · exact h _ _ _ c

theorem not_short {l : List UInt8} {sz lo hi : Nat} (c : Cls (l.headD 0).toNat sz lo hi) (h : l.length < sz) (n v : Nat) : ¬ Good l n v := by
  have L := c.lead
  rintro (⟨h', _, _⟩ | ⟨lo', hi', c', a, _⟩)
  · omega
  · have := c.same c'; have := a.le; omega

theorem not_second {l : List UInt8} {sz lo hi : Nat} (c : Cls (l.headD 0).toNat sz lo hi) (h : (l.getD 1 0).toNat < lo ∨ hi < (l.getD 1 0).toNat) (n v : Nat) : ¬ Good l n v := by
  have L := c.lead
  rintro (⟨h', _, _⟩ | ⟨lo', hi', c', a, x, y⟩)
  · omega
  · have := c.same c'; omega

theorem At.cont_at {l : List UInt8} {u0 n v : Nat} (a : At l u0 n v) (k : Nat) (h1 : 1 ≤ k) (h2 : k < n) (hl : k < l.length) : cont l[k] = true := by
  refine a.all _ ?_
  have hk : k - 1 < (l.take n).tail.length := by rw [take_tail_len l n a.le]; omega
  have e : (l.take n).tail[k - 1] = l[k] := by
    rw [List.getElem_tail, List.getElem_take]
    congr 1
    omega
  rw [← e]
  exact List.getElem_mem hk

theorem not_cont {l : List UInt8} {sz lo hi k : Nat} (c : Cls (l.headD 0).toNat sz lo hi) (h1 : 1 ≤ k) (h2 : k < sz) (hl : k < l.length) (h : cont l[k] = false) (n v : Nat) : ¬ Good l n v := by
  have L := c.lead
  rintro (⟨h', _, _⟩ | ⟨lo', hi', c', a, x, y⟩)
  · omega
  · have e := c.same c'
    have := a.cont_at k h1 (by omega) hl
    rw [h] at this
    cases this

/-- the folded value, two, three and four bytes, in full -/
theorem step_small (u : Nat) (c : UInt8) (h : u < 67108864) : step u c = u * 64 + c.toNat % 64 := by
  unfold step; exact Nat.mod_eq_of_lt (by omega)

theorem at_val2 {l : List UInt8} {u0 v : Nat} (a : At l u0 2 v) (h : u0 < 67108864) : v = u0 * 64 + (l.getD 1 0).toNat % 64 := by
  have hl := a.le
  match l, hl, a with
  | [_], hl, _ => simp at hl
  | _ :: c :: t, _, a =>
    have := a.val
    simp only [List.take_succ_cons, List.take_zero, List.tail_cons, List.foldl_cons, List.foldl_nil] at this
    rw [this, step_small _ _ h]; rfl

theorem at_val3 {l : List UInt8} {u0 v : Nat} (a : At l u0 3 v) (h : u0 < 1048576) : v = (u0 * 64 + (l.getD 1 0).toNat % 64) * 64 + (l.getD 2 0).toNat % 64 := by
  have hl := a.le
  match l, hl, a with
  | [_], hl, _ => simp at hl
  | [_, _], hl, _ => simp at hl
  | _ :: c :: d :: t, _, a =>
    have := a.val
    simp only [List.take_succ_cons, List.take_zero, List.tail_cons, List.foldl_cons, List.foldl_nil] at this
    have s1 := step_small u0 c (by omega)
    rw [this, step_small _ _ (by omega), s1]; rfl

theorem at_val4 {l : List UInt8} {u0 v : Nat} (a : At l u0 4 v) (h : u0 < 1000) : v = ((u0 * 64 + (l.getD 1 0).toNat % 64) * 64 + (l.getD 2 0).toNat % 64) * 64 + (l.getD 3 0).toNat % 64 := by
  have hl := a.le
  match l, hl, a with
  | [_], hl, _ => simp at hl
  | [_, _], hl, _ => simp at hl
  | [_, _, _], hl, _ => simp at hl
  | _ :: c :: d :: e :: t, _, a =>
    have := a.val
    simp only [List.take_succ_cons, List.take_zero, List.tail_cons, List.foldl_cons, List.foldl_nil] at this
    have s1 := step_small u0 c (by omega)
    have s2 := step_small (step u0 c) d (by omega)
    rw [this, step_small _ _ (by omega), s2, s1]; rfl

/-- the value lies beyond the first class and is no surrogate -/
theorem good_val {l : List UInt8} {n v : Nat} {lo hi : Nat} (c : Cls (l.headD 0).toNat n lo hi) (a : At l (leadBits (l.headD 0).toNat) n v) (h1 : lo ≤ (l.getD 1 0).toNat) (h2 : (l.getD 1 0).toNat ≤ hi) :
    128 ≤ v ∧ v < 1114112 ∧ (v < 55296 ∨ 57343 < v) := by
  have L := lb (l.headD 0).toNat
  obtain ⟨b, hb⟩ : ∃ b, (l.headD 0).toNat = b := ⟨_, rfl⟩
  obtain ⟨x, hx⟩ : ∃ x, (l.getD 1 0).toNat = x := ⟨_, rfl⟩
  rw [hb] at c a L
  rw [hx] at h1 h2
  rcases c with c | c | c | c | c | c | c
  · obtain ⟨c1, c2, rfl, rfl, rfl⟩ := c
    have e := L.1 (by omega)
    have := at_val2 a (by omega)
    rw [hx] at this
    omega
  · obtain ⟨rfl, rfl, rfl, rfl⟩ := c
    have e := L.2.1 (by omega) (by omega)
    have := at_val3 a (by omega)
    rw [hx] at this
    omega
  · obtain ⟨c1, c2, c3, rfl, rfl, rfl⟩ := c
    have e := L.2.1 (by omega) (by omega)
    have := at_val3 a (by omega)
    rw [hx] at this
    omega
  · obtain ⟨rfl, rfl, rfl, rfl⟩ := c
    have e := L.2.1 (by omega) (by omega)
    have := at_val3 a (by omega)
    rw [hx] at this
    omega
  · obtain ⟨rfl, rfl, rfl, rfl⟩ := c
    have e := L.2.2.1 (by omega) (by omega)
    have := at_val4 a (by omega)
    rw [hx] at this
    omega
  · obtain ⟨c1, c2, rfl, rfl, rfl⟩ := c
    have e := L.2.2.1 (by omega) (by omega)
    have := at_val4 a (by omega)
    rw [hx] at this
    omega
  · obtain ⟨rfl, rfl, rfl, rfl⟩ := c
    have e := L.2.2.1 (by omega) (by omega)
    have := at_val4 a (by omega)
    rw [hx] at this
    omega

/-- likeChar reads a well-formed sequence that no continuation byte follows -/
theorem good_like {l : List UInt8} {n v : Nat} (g : Good l n v) (hnext : ∀ h : n < l.length, cont l[n] = false) :
    num l = n ∧ chr l = if v = 65534 ∨ v = 65535 then 65533 else (v : Int) := by
  rcases g with ⟨h, hn, hv⟩ | ⟨lo, hi, c, a, h1, h2⟩
  · unfold num chr
    rw [if_pos (by omega), if_pos (by omega), if_neg (by omega)]
    exact ⟨hn.symm, by rw [hv]⟩
  · have G := good_val c a h1 h2
    have L := c.lead
    obtain ⟨hv, hn⟩ := a.fin hnext
    unfold num chr raw
    rw [if_neg (by omega), if_neg (by omega), ← hv]
    refine ⟨hn.symm, ?_⟩
    by_cases hf : v = 65534 ∨ v = 65535
    · rw [if_pos hf]
      have : bad v = true := by simp [bad]; omega
      simp [fix, this, asRune]
    · rw [if_neg hf]
      have : bad v = false := by simp [bad]; omega
      simp only [fix, this]
      simp [asRune]; omega

/-- a sequence is what it is: its length and value -/
theorem Good.unique {l : List UInt8} {n v n' v' : Nat} (g : Good l n v) (g' : Good l n' v') : n = n' ∧ v = v' := by
  rcases g with ⟨h, hn, hv⟩ | ⟨lo, hi, c, a, h1, h2⟩
  · rcases g' with ⟨h', hn', hv'⟩ | ⟨lo', hi', c', a', _, _⟩
    · omega
    · have := c'.lead; omega
  · rcases g' with ⟨h', hn', hv'⟩ | ⟨lo', hi', c', a', _, _⟩
    · have := c.lead; omega
    · have e := c.same c'
      refine ⟨e.1, ?_⟩
      rw [a.val, a'.val, e.1]

end Go.Proofs.Qxb6604200a.Like
