/-
  The walks of zzMomentFrom, ZZCivil and ZZJulian: a moment made, turned by civil or julian, and its fields read back.
-/
import Derived.Test.Qxb6604200aMomentOf
namespace Go.Proofs.Qxb6604200a
open Go.RowKit
attribute [local go_sem] run_store_float

set_option maxHeartbeats 1000000 in
set_option maxRecDepth 10000 in
theorem from_any (jd year month day hour minute zone overflow : Int) (second number : Nat) (hasJD hasDate hasClock isNumber utc loc subsec failed : Bool) (w : World) :
    Calls Try.prog 29 #[.agg #[.int .i64 jd, .bool hasJD, .int .i64 year, .int .i64 month, .int .i64 day, .bool hasDate, .int .i64 hour, .int .i64 minute, .float .f64 second, .bool hasClock, .float .f64 number, .bool isNumber, .int .i64 zone, .bool utc, .bool loc, .bool subsec, .int .i64 overflow, .bool failed]] w fun e w' => e = .returned (.pointer (some ⟨w.heap.size + 1, 0, none⟩)) ∧ w' = (w.alloc (.cells #[.int .i64 jd, .bool hasJD, .int .i64 year, .int .i64 month, .int .i64 day, .bool hasDate, .int .i64 hour, .int .i64 minute, .float .f64 second, .bool hasClock, .float .f64 number, .bool isNumber, .int .i64 zone, .bool utc, .bool loc, .bool subsec, .int .i64 overflow, .bool failed] 32)).alloc (.cells #[.int .i64 jd, .bool hasJD, .int .i64 year, .int .i64 month, .int .i64 day, .bool hasDate, .int .i64 hour, .int .i64 minute, .float .f64 second, .bool hasClock, .float .f64 number, .bool isNumber, .int .i64 zone, .bool utc, .bool loc, .bool subsec, .int .i64 overflow, .bool failed] 53) := by
  go_enter Try.func29, Try.ntmps29
  go_wp2
  go_ret
  exact ⟨rfl, rfl⟩

theorem of_N (jd year month day hour minute zone overflow : Int) (second number : Nat) (hasJD hasDate hasClock isNumber utc loc subsec failed : Bool) (W : World) (k : Nat) :
    Calls Try.prog 31 #[.pointer (some ⟨W.heap.size, 0, none⟩)] ((W.alloc (.cells #[.int .i64 jd, .bool hasJD, .int .i64 year, .int .i64 month, .int .i64 day, .bool hasDate, .int .i64 hour, .int .i64 minute, .float .f64 second, .bool hasClock, .float .f64 number, .bool isNumber, .int .i64 zone, .bool utc, .bool loc, .bool subsec, .int .i64 overflow, .bool failed] 53)).drewN k) fun e w' => e = .returned (.agg #[.int .i64 jd, .bool hasJD, .int .i64 year, .int .i64 month, .int .i64 day, .bool hasDate, .int .i64 hour, .int .i64 minute, .float .f64 second, .bool hasClock, .float .f64 number, .bool isNumber, .int .i64 zone, .bool utc, .bool loc, .bool subsec, .int .i64 overflow, .bool failed]) ∧ w' = ((W.alloc (.cells #[.int .i64 jd, .bool hasJD, .int .i64 year, .int .i64 month, .int .i64 day, .bool hasDate, .int .i64 hour, .int .i64 minute, .float .f64 second, .bool hasClock, .float .f64 number, .bool isNumber, .int .i64 zone, .bool utc, .bool loc, .bool subsec, .int .i64 overflow, .bool failed] 53)).alloc (.cells #[.int .i64 jd, .bool hasJD, .int .i64 year, .int .i64 month, .int .i64 day, .bool hasDate, .int .i64 hour, .int .i64 minute, .float .f64 second, .bool hasClock, .float .f64 number, .bool isNumber, .int .i64 zone, .bool utc, .bool loc, .bool subsec, .int .i64 overflow, .bool failed] 32)).drewN (k + 1) :=
  of_any jd year month day hour minute zone overflow second number hasJD hasDate hasClock isNumber utc loc subsec failed (W.drewN k)

theorem of_b (jd year month day hour minute zone overflow : Int) (second number : Nat) (hasJD hasDate hasClock isNumber utc loc subsec failed : Bool) (W : World) (k b : Nat) (hb : W.heap.size = b) :
    Calls Try.prog 31 #[.pointer (some ⟨b, 0, none⟩)] ((W.alloc (.cells #[.int .i64 jd, .bool hasJD, .int .i64 year, .int .i64 month, .int .i64 day, .bool hasDate, .int .i64 hour, .int .i64 minute, .float .f64 second, .bool hasClock, .float .f64 number, .bool isNumber, .int .i64 zone, .bool utc, .bool loc, .bool subsec, .int .i64 overflow, .bool failed] 53)).drewN k) fun e w' => e = .returned (.agg #[.int .i64 jd, .bool hasJD, .int .i64 year, .int .i64 month, .int .i64 day, .bool hasDate, .int .i64 hour, .int .i64 minute, .float .f64 second, .bool hasClock, .float .f64 number, .bool isNumber, .int .i64 zone, .bool utc, .bool loc, .bool subsec, .int .i64 overflow, .bool failed]) ∧ w' = ((W.alloc (.cells #[.int .i64 jd, .bool hasJD, .int .i64 year, .int .i64 month, .int .i64 day, .bool hasDate, .int .i64 hour, .int .i64 minute, .float .f64 second, .bool hasClock, .float .f64 number, .bool isNumber, .int .i64 zone, .bool utc, .bool loc, .bool subsec, .int .i64 overflow, .bool failed] 53)).alloc (.cells #[.int .i64 jd, .bool hasJD, .int .i64 year, .int .i64 month, .int .i64 day, .bool hasDate, .int .i64 hour, .int .i64 minute, .float .f64 second, .bool hasClock, .float .f64 number, .bool isNumber, .int .i64 zone, .bool utc, .bool loc, .bool subsec, .int .i64 overflow, .bool failed] 32)).drewN (k + 1) := by
  subst hb
  exact of_N jd year month day hour minute zone overflow second number hasJD hasDate hasClock isNumber utc loc subsec failed W k

theorem heap_under (w : World) (o o1 : Obj) : ((w.alloc o).alloc o1).heap[w.heap.size]? = some o := by
  show ((w.heap.push o).push o1)[w.heap.size]? = some o
  simp [Array.getElem?_push]

theorem heap_mid (w : World) (o o1 o2 o3 o4 : Obj) (k : Nat) : ((((((w.alloc o).alloc o1).alloc o2).alloc o3).alloc o4).drewN k).heap[w.heap.size + 1]? = some o1 := by
  show (((((w.heap.push o).push o1).push o2).push o3).push o4)[w.heap.size + 1]? = some o1
  simp [Array.getElem_push]

theorem setRow_mid (w : World) (o o2 o3 o4 : Obj) (old new : Array Value) (t : TypeId) (k : Nat) :
    ((((((w.alloc o).alloc (.cells old t)).alloc o2).alloc o3).alloc o4).drewN k).setRow (w.heap.size + 1) new = (((((w.alloc o).alloc (.cells new t)).alloc o2).alloc o3).alloc o4).drewN k := by
  unfold World.setRow
  have e : (((((w.heap.push o).push (.cells old t)).push o2).push o3).push o4).modify (w.heap.size + 1) (fun | .cells _ elem frozen => .cells new elem frozen | o => o) = ((((w.heap.push o).push (.cells new t)).push o2).push o3).push o4 := by
    apply Array.ext
    · simp
    · intro i h1 h2
      rw [Array.getElem_modify]
      split
      · rename_i hi
        subst hi
        simp [Array.getElem_push]
      · rename_i hi
        have hi' : ¬ i = w.heap.size + 1 := fun h => hi h.symm
        simp only [Array.getElem_push, Array.size_push]
        repeat' split
        all_goals first | rfl | omega
  exact congrArg (fun h => ({ (((((w.alloc o).alloc (.cells new t)).alloc o2).alloc o3).alloc o4).drewN k with heap := h } : World)) e

theorem wpList_store_mid {P : Program} {ops : Array Oper} {rest : List Oper} {p : Oper} {a : Act} {Q : Exit → Act → World → Prop} {w : World} {o o2 o3 o4 : Obj} {k : Nat} (hgd : p.guard = none) (ty : TypeId) (x y : Operand) (ho : p.op = .store ty x y)
    (new : Array Value) (hx : a.eval x = .pointer (some ⟨w.heap.size + 1, 0, none⟩)) (hy : a.eval y = .agg new) (t : TypeId) (old : Array Value) (hi : (P.info? ty).map (·.size) = some new.size)
    (hold : old.size = new.size) (h1 : new.all (·.oneCell') = true) (h : wpList P ops Q rest (a.put p.dst undef) ((((((w.alloc o).alloc (.cells new t)).alloc o2).alloc o3).alloc o4).drewN k)) :
    wpList P ops Q (p :: rest) a ((((((w.alloc o).alloc (.cells old t)).alloc o2).alloc o3).alloc o4).drewN k) :=
  wpList_plain hgd fun _ hK => wp_store_row ty x y ho (w.heap.size + 1) new hx hy t old (heap_mid w _ _ _ _ _ _) hi hold h1 (hK _ _ (by rw [setRow_mid]; exact h))

theorem wpList_load_two {P : Program} {ops : Array Oper} {rest : List Oper} {p : Oper} {a : Act} {w : World} {o1 : Obj} {Q : Exit → Act → World → Prop} (hgd : p.guard = none) (ty : TypeId) (x : Operand) (ho : p.op = .load ty x)
    (hx : a.eval x = .pointer (some ⟨w.heap.size, 0, none⟩)) (t : TypeId) (cs : Array Value) (d : TypeDesc)
    (hu : P.underlying ty = some d) (hd : (match d with | .struct _ | .array _ _ => true | _ => false) = true) (hi : (P.info? ty).map (·.size) = some cs.size)
    (h : wpList P ops Q rest (a.put p.dst (.agg cs)) ((w.alloc (.cells cs t)).alloc o1)) : wpList P ops Q (p :: rest) a ((w.alloc (.cells cs t)).alloc o1) :=
  wpList_load_row hgd ty x ho w.heap.size hx t cs (0, 0) d (heap_under w _ _) hu hd hi h

theorem grown_five (w : World) (c0 c1 c2 c3 c4 : Array Value) (t0 t1 t2 t3 t4 : TypeId) (k : Nat) : Grown w ((((((w.alloc (.cells c0 t0)).alloc (.cells c1 t1)).alloc (.cells c2 t2)).alloc (.cells c3 t3)).alloc (.cells c4 t4)).drewN k) :=
  (((((Grown.refl w).alloc c0 t0).alloc c1 t1).alloc c2 t2).alloc c3 t3).alloc c4 t4

end Go.Proofs.Qxb6604200a
