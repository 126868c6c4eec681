/-
  The walk of civil's small ways, of fail and of validJulian: what they leave of a moment that lies in the newest block.
-/
import Derived.Test.Qxb6604200aRows
import Derived.WalkKit
import Derived.WalkSpells
import Derived.WalkLawsBesides
import Derived.Test.Qxb6604200aFloatCal
import Derived.Deep.DeepCutAuto
import Derived.Deep.CutBlock
namespace Go.Proofs.Qxb6604200a
open Go.RowKit

theorem run_store_float {P : Program} (w : World) (a : Addr) (m : Mode) (k : FloatKind) (b : Nat) : (store a (.float k b) m).run P w = stored P w a (.float k b) m := run_store P w a _ m rfl
attribute [local go_sem] run_store_float

theorem valid_yes (jd : Int) (w : World) (h1 : 0 ≤ jd) (h2 : jd ≤ 464269060799999) :
    Calls Try.prog 38 #[.int .i64 jd] w fun e w' => e = .returned (.bool true) ∧ w = w' := by
  go_enter Try.func38, Try.ntmps38
  go_wp2
  go_ret
  exact ⟨by simp, rfl⟩

theorem valid_no (jd : Int) (w : World) (h : jd < 0 ∨ 464269060799999 < jd) :
    Calls Try.prog 38 #[.int .i64 jd] w fun e w' => e = .returned (.bool false) ∧ w = w' := by
  rcases h with h | h
  · go_enter Try.func38, Try.ntmps38
    go_wp2
    go_ret
    exact ⟨rfl, rfl⟩
  · have h' : 0 ≤ jd := by omega
    have h2 : ¬ jd ≤ 464269060799999 := by omega
    go_enter Try.func38, Try.ntmps38
    go_wp2
    go_ret
    exact ⟨by simp, rfl⟩

set_option maxHeartbeats 1000000 in
set_option maxRecDepth 10000 in
theorem fail_any (jd year month day hour minute zone overflow : Int) (second number : Nat) (hasJD hasDate hasClock isNumber utc loc subsec failed : Bool) (W : World) :
    Calls Try.prog 37 #[.pointer (some ⟨W.heap.size, 0, none⟩)] (W.alloc (.cells #[.int .i64 jd, .bool hasJD, .int .i64 year, .int .i64 month, .int .i64 day, .bool hasDate, .int .i64 hour, .int .i64 minute, .float .f64 second, .bool hasClock, .float .f64 number, .bool isNumber, .int .i64 zone, .bool utc, .bool loc, .bool subsec, .int .i64 overflow, .bool failed] 53))
    fun e w' => e = .returned (.tuple #[]) ∧ w' = W.alloc (.cells #[.int .i64 0, .bool false, .int .i64 0, .int .i64 0, .int .i64 0, .bool false, .int .i64 0, .int .i64 0, .float .f64 0, .bool false, .float .f64 0, .bool false, .int .i64 0, .bool false, .bool false, .bool false, .int .i64 0, .bool true] 53) := by
  go_enter Try.func37, Try.ntmps37
  go_wp2
  go_end0
  exact ⟨rfl, rfl⟩

set_option maxHeartbeats 1000000 in
set_option maxRecDepth 10000 in
theorem civil_date (jd year month day hour minute zone overflow : Int) (second number : Nat) (hasJD hasClock isNumber utc loc subsec failed : Bool) (W : World) :
    Calls Try.prog 34 #[.pointer (some ⟨W.heap.size, 0, none⟩)] (W.alloc (.cells #[.int .i64 jd, .bool hasJD, .int .i64 year, .int .i64 month, .int .i64 day, .bool true, .int .i64 hour, .int .i64 minute, .float .f64 second, .bool hasClock, .float .f64 number, .bool isNumber, .int .i64 zone, .bool utc, .bool loc, .bool subsec, .int .i64 overflow, .bool failed] 53))
    fun e w' => e = .returned (.tuple #[]) ∧ w' = W.alloc (.cells #[.int .i64 jd, .bool hasJD, .int .i64 year, .int .i64 month, .int .i64 day, .bool true, .int .i64 hour, .int .i64 minute, .float .f64 second, .bool hasClock, .float .f64 number, .bool isNumber, .int .i64 zone, .bool utc, .bool loc, .bool subsec, .int .i64 overflow, .bool failed] 53) := by
  go_enter Try.func34, Try.ntmps34
  go_wp2
  refine bodyPost_ret (results_none rfl _ _ _) rfl ?_
  exact ⟨rfl, rfl⟩

set_option maxHeartbeats 1000000 in
set_option maxRecDepth 10000 in
theorem civil_none (jd year month day hour minute zone overflow : Int) (second number : Nat) (hasClock isNumber utc loc subsec failed : Bool) (W : World) :
    Calls Try.prog 34 #[.pointer (some ⟨W.heap.size, 0, none⟩)] (W.alloc (.cells #[.int .i64 jd, .bool false, .int .i64 year, .int .i64 month, .int .i64 day, .bool false, .int .i64 hour, .int .i64 minute, .float .f64 second, .bool hasClock, .float .f64 number, .bool isNumber, .int .i64 zone, .bool utc, .bool loc, .bool subsec, .int .i64 overflow, .bool failed] 53))
    fun e w' => e = .returned (.tuple #[]) ∧ w' = W.alloc (.cells #[.int .i64 jd, .bool false, .int .i64 2000, .int .i64 1, .int .i64 1, .bool true, .int .i64 hour, .int .i64 minute, .float .f64 second, .bool hasClock, .float .f64 number, .bool isNumber, .int .i64 zone, .bool utc, .bool loc, .bool subsec, .int .i64 overflow, .bool failed] 53) := by
  go_enter Try.func34, Try.ntmps34
  go_wp2
  go_end0
  exact ⟨rfl, rfl⟩

set_option maxHeartbeats 1000000 in
set_option maxRecDepth 10000 in
theorem civil_bad (jd year month day hour minute zone overflow : Int) (second number : Nat) (hasClock isNumber utc loc subsec failed : Bool) (W : World) (h : jd < 0 ∨ 464269060799999 < jd) :
    Calls Try.prog 34 #[.pointer (some ⟨W.heap.size, 0, none⟩)] (W.alloc (.cells #[.int .i64 jd, .bool true, .int .i64 year, .int .i64 month, .int .i64 day, .bool false, .int .i64 hour, .int .i64 minute, .float .f64 second, .bool hasClock, .float .f64 number, .bool isNumber, .int .i64 zone, .bool utc, .bool loc, .bool subsec, .int .i64 overflow, .bool failed] 53))
    fun e w' => e = .returned (.tuple #[]) ∧ w' = W.alloc (.cells #[.int .i64 0, .bool false, .int .i64 0, .int .i64 0, .int .i64 0, .bool false, .int .i64 0, .int .i64 0, .float .f64 0, .bool false, .float .f64 0, .bool false, .int .i64 0, .bool false, .bool false, .bool false, .int .i64 0, .bool true] 53) := by
  have HN : Hid (jd < 0 ∨ 464269060799999 < jd) := h
  clear h
  go_enter Try.func34, Try.ntmps34
  go_wp2_with (first | (go_at_call 37; refine (fail_any _ _ _ _ _ _ _ _ _ _ _ _ _ _ _ _ _ _ _).mono ?_; rintro e w' ⟨rfl, rfl⟩) | (go_at_call 38; refine (valid_no _ _ HN.out).mono ?_; rintro e w' ⟨rfl, rfl⟩))
  refine bodyPost_ret (results_none rfl _ _ _) rfl ?_
  exact ⟨rfl, rfl⟩

end Go.Proofs.Qxb6604200a
