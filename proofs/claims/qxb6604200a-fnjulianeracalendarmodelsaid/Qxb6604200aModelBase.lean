/-
  Steps of the models: rows stored and loaded whole.
-/
import Derived.Test.Qxb6604200aCivilCall
import Derived.Test.Qxb6604200aOrdered
import Derived.Test.Qxb6604200aFromDays
namespace Go.Proofs.Qxb6604200a
open Go.RowKit
attribute [local go_sem] run_store_float

theorem size30 (jd : Int) (hasJD : Bool) (year month day : Int) (hasDate : Bool) (hour minute : Int) (second : Nat) (hasClock : Bool) (number : Nat) (isNumber : Bool) (zone : Int) (utc loc subsec : Bool) (overflow : Int) (failed : Bool) :
    (Try.prog.info? 30).map (·.size) = some (row jd hasJD year month day hasDate hour minute second hasClock number isNumber zone utc loc subsec overflow failed).size := by kernel_rfl
theorem one_row (jd : Int) (hasJD : Bool) (year month day : Int) (hasDate : Bool) (hour minute : Int) (second : Nat) (hasClock : Bool) (number : Nat) (isNumber : Bool) (zone : Int) (utc loc subsec : Bool) (overflow : Int) (failed : Bool) :
    (row jd hasJD year month day hasDate hour minute second hasClock number isNumber zone utc loc subsec overflow failed).all (·.oneCell') = true :=
  one18 jd year month day hour minute zone overflow second number hasJD hasDate hasClock isNumber utc loc subsec failed

theorem setRow_under (Y : World) (o : Obj) (old new : Array Value) (t : TypeId) : ((Y.alloc (.cells old t)).alloc o).setRow Y.heap.size new = (Y.alloc (.cells new t)).alloc o := by
  unfold World.setRow
  have e : ((Y.heap.push (.cells old t)).push o).modify Y.heap.size (fun | .cells _ elem frozen => .cells new elem frozen | o => o) = (Y.heap.push (.cells new t)).push o := by
    apply Array.ext
    · simp
    · intro i h1 h2
      rw [Array.getElem_modify]
      split
      · rename_i hi
        subst hi
        simp [Array.getElem_push]
      · rename_i hi
        have hi' : ¬ i = Y.heap.size := fun h => hi h.symm
        simp only [Array.getElem_push, Array.size_push]
        repeat' split
        all_goals first | rfl | omega
  exact congrArg (fun h => ({ (Y.alloc (.cells new t)).alloc o with heap := h } : World)) e

/-- a row stored whole into the block under the newest -/
theorem wpList_store_under {P : Program} {ops : Array Oper} {rest : List Oper} {p : Oper} {a : Act} {Y : World} {o : Obj} {Q : Exit → Act → World → Prop} (hgd : p.guard = none) (ty : TypeId) (x y : Operand) (ho : p.op = .store ty x y)
    (g : Nat) (hgY : Y.heap.size = g) (new : Array Value) (hx : a.eval x = .pointer (some ⟨g, 0, none⟩)) (hy : a.eval y = .agg new) (t : TypeId) (old : Array Value) (hi : (P.info? ty).map (·.size) = some new.size)
    (hold : old.size = new.size) (h1 : new.all (·.oneCell') = true) (h : wpList P ops Q rest (a.put p.dst undef) ((Y.alloc (.cells new t)).alloc o)) : wpList P ops Q (p :: rest) a ((Y.alloc (.cells old t)).alloc o) := by
  subst hgY
  exact wpList_plain hgd fun _ hK => wp_store_row ty x y ho Y.heap.size new hx hy t old (heap_under Y _ _) hi hold h1 (hK _ _ (by rw [setRow_under]; exact h))

theorem wpList_store_g {P : Program} {ops : Array Oper} {rest : List Oper} {p : Oper} {a : Act} {Y : World} {Q : Exit → Act → World → Prop} (hgd : p.guard = none) (ty : TypeId) (x y : Operand) (ho : p.op = .store ty x y)
    (g : Nat) (hgY : Y.heap.size = g) (new : Array Value) (hx : a.eval x = .pointer (some ⟨g, 0, none⟩)) (hy : a.eval y = .agg new) (t : TypeId) (old : Array Value) (hi : (P.info? ty).map (·.size) = some new.size)
    (hold : old.size = new.size) (h1 : new.all (·.oneCell') = true) (h : wpList P ops Q rest (a.put p.dst undef) (Y.alloc (.cells new t))) : wpList P ops Q (p :: rest) a (Y.alloc (.cells old t)) := by
  subst hgY
  exact wpList_store_new hgd ty x y ho new hx hy t old hi hold h1 h

/-- a row loaded whole out of the newest block -/
theorem wpList_load_new {P : Program} {ops : Array Oper} {rest : List Oper} {p : Oper} {a : Act} {Y : World} {Q : Exit → Act → World → Prop} (hgd : p.guard = none) (ty : TypeId) (x : Operand) (ho : p.op = .load ty x)
    (g : Nat) (hgY : Y.heap.size = g) (hx : a.eval x = .pointer (some ⟨g, 0, none⟩)) (t : TypeId) (cs : Array Value) (d : TypeDesc)
    (hu : P.underlying ty = some d) (hd : (match d with | .struct _ | .array _ _ => true | _ => false) = true) (hi : (P.info? ty).map (·.size) = some cs.size)
    (h : wpList P ops Q rest (a.put p.dst (.agg cs)) (Y.alloc (.cells cs t))) : wpList P ops Q (p :: rest) a (Y.alloc (.cells cs t)) := by
  subst hgY
  exact wpList_load_row hgd ty x ho Y.heap.size hx t cs (0, 0) d (heap_new Y _) hu hd hi h

theorem heap_at0 (Y : World) (o : Obj) (g : Nat) (h : Y.heap.size = g) : (Y.alloc o).heap[g]? = some o := by
  subst h
  exact heap_new Y o

theorem heap_under0 (Y : World) (o o1 : Obj) (g : Nat) (h : Y.heap.size = g) : ((Y.alloc o).alloc o1).heap[g]? = some o := by
  subst h
  exact heap_under Y o o1

theorem cell_two (w : World) (C X : Array Value) (o : Obj) (i : Nat) (v : Value) (h : C[i]? = some v) : (((w.alloc (.cells C 30)).alloc o).alloc (.cells X 30)).cell? ⟨w.heap.size, i, none⟩ = some v := by
  have e : (((w.alloc (.cells C 30)).alloc o).alloc (.cells X 30)).heap[w.heap.size]? = some (.cells C 30) := by
    show (((w.heap.push (.cells C 30)).push o).push (.cells X 30))[w.heap.size]? = some (.cells C 30)
    simp [Array.getElem?_push]
    intro h
    omega
  exact cell_heap e i v h
theorem cell_one (w : World) (C : Array Value) (o : Obj) (i : Nat) (v : Value) (h : C[i]? = some v) : ((w.alloc (.cells C 30)).alloc o).cell? ⟨w.heap.size, i, none⟩ = some v :=
  cell_heap (heap_under w _ _) i v h

end Go.Proofs.Qxb6604200a
