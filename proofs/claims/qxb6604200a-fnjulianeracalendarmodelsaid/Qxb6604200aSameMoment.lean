/-
  zzSameMoment: a moment is the same as itself.
-/
import Derived.Test.Qxb6604200aSameFloat
import Derived.Test.Qxb6604200aFieldRead
import Derived.Deep.DeepCutAuto
namespace Go.Proofs.Qxb6604200a
open Go.RowKit

theorem two_a (w : World) (D : Array Value) (i : Nat) (v : Value) (h : D[i]? = some v) : ((w.alloc (.cells D 30)).alloc (.cells D 30)).cell? ⟨w.heap.size, i, none⟩ = some v := by
  have e : ((w.alloc (.cells D 30)).alloc (.cells D 30)).heap[w.heap.size]? = some (.cells D 30) := by
    show ((w.heap.push _).push _)[w.heap.size]? = _
    simp [Array.getElem?_push]
  simp [World.cell?, e, h]
theorem two_b (w : World) (D : Array Value) (i : Nat) (v : Value) (h : D[i]? = some v) : ((w.alloc (.cells D 30)).alloc (.cells D 30)).cell? ⟨w.heap.size + 1, i, none⟩ = some v := by
  have e : ((w.alloc (.cells D 30)).alloc (.cells D 30)).heap[w.heap.size + 1]? = some (.cells D 30) := by
    have hn := heap_new (w.alloc (.cells D 30)) (.cells D 30)
    rwa [show (w.alloc (.cells D 30)).heap.size = w.heap.size + 1 by simp] at hn
  unfold World.cell?
  rw [e]
  exact h

set_option maxHeartbeats 4000000 in
set_option maxRecDepth 20000 in
theorem sameMoment_any (D : Array Value) (jd year month day hour minute zone overflow : Int) (second number : Nat) (hasJD hasDate hasClock isNumber utc loc subsec failed : Bool) (w : World)
    (d0 : D[0]? = some (.int .i64 jd)) (d1 : D[1]? = some (.bool hasJD)) (d2 : D[2]? = some (.int .i64 year)) (d3 : D[3]? = some (.int .i64 month)) (d4 : D[4]? = some (.int .i64 day)) (d5 : D[5]? = some (.bool hasDate)) (d6 : D[6]? = some (.int .i64 hour)) (d7 : D[7]? = some (.int .i64 minute)) (d8 : D[8]? = some (.float .f64 second)) (d9 : D[9]? = some (.bool hasClock)) (d10 : D[10]? = some (.float .f64 number)) (d11 : D[11]? = some (.bool isNumber)) (d12 : D[12]? = some (.int .i64 zone)) (d13 : D[13]? = some (.bool utc)) (d14 : D[14]? = some (.bool loc)) (d15 : D[15]? = some (.bool subsec)) (d16 : D[16]? = some (.int .i64 overflow)) (d17 : D[17]? = some (.bool failed)) :
    Calls Try.prog 21 #[.agg D, .agg D] w fun e w' => e = .returned (.bool true) ∧ w' = (w.alloc (.cells D 30)).alloc (.cells D 30) := by
  have a0 := two_a w D 0 _ d0
  have b0 := two_b w D 0 _ d0
  have a1 := two_a w D 1 _ d1
  have b1 := two_b w D 1 _ d1
  have a2 := two_a w D 2 _ d2
  have b2 := two_b w D 2 _ d2
  have a3 := two_a w D 3 _ d3
  have b3 := two_b w D 3 _ d3
  have a4 := two_a w D 4 _ d4
  have b4 := two_b w D 4 _ d4
  have a5 := two_a w D 5 _ d5
  have b5 := two_b w D 5 _ d5
  have a6 := two_a w D 6 _ d6
  have b6 := two_b w D 6 _ d6
  have a7 := two_a w D 7 _ d7
  have b7 := two_b w D 7 _ d7
  have a8 := two_a w D 8 _ d8
  have b8 := two_b w D 8 _ d8
  have a9 := two_a w D 9 _ d9
  have b9 := two_b w D 9 _ d9
  have a10 := two_a w D 10 _ d10
  have b10 := two_b w D 10 _ d10
  have a11 := two_a w D 11 _ d11
  have b11 := two_b w D 11 _ d11
  have a12 := two_a w D 12 _ d12
  have b12 := two_b w D 12 _ d12
  have a13 := two_a w D 13 _ d13
  have b13 := two_b w D 13 _ d13
  have a14 := two_a w D 14 _ d14
  have b14 := two_b w D 14 _ d14
  have a15 := two_a w D 15 _ d15
  have b15 := two_b w D 15 _ d15
  have a16 := two_a w D 16 _ d16
  have b16 := two_b w D 16 _ d16
  have a17 := two_a w D 17 _ d17
  have b17 := two_b w D 17 _ d17
  clear d0 d1 d2 d3 d4 d5 d6 d7 d8 d9 d10 d11 d12 d13 d14 d15 d16 d17
  have q_jd : (jd == jd) = true := by simp
  have q_hasJD : (hasJD == hasJD) = true := by simp
  have q_year : (year == year) = true := by simp
  have q_month : (month == month) = true := by simp
  have q_day : (day == day) = true := by simp
  have q_hasDate : (hasDate == hasDate) = true := by simp
  have q_hour : (hour == hour) = true := by simp
  have q_minute : (minute == minute) = true := by simp
  have q_hasClock : (hasClock == hasClock) = true := by simp
  have q_isNumber : (isNumber == isNumber) = true := by simp
  have q_zone : (zone == zone) = true := by simp
  have q_utc : (utc == utc) = true := by simp
  have q_loc : (loc == loc) = true := by simp
  have q_subsec : (subsec == subsec) = true := by simp
  have q_overflow : (overflow == overflow) = true := by simp
  have q_failed : (failed == failed) = true := by simp
  have c32 : Hid (∀ b w, Calls Try.prog 32 #[.float .f64 b, .float .f64 b] w fun e w' => e = .returned (.bool true) ∧ w = w') := sameFloat_any
  go_enter Try.func21, Try.ntmps21
  go_wp2_with (go_at_call 32; refine (c32.out _ _).mono ?_; rintro e w' ⟨rfl, rfl⟩)
  go_ret
  exact ⟨rfl, rfl⟩

end Go.Proofs.Qxb6604200a
