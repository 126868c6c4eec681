/-
  Steps of zzMomentOf: a field of a moment read through its pointer, whatever stands beside it; a row stored whole.
-/
import Derived.Test.Qxb6604200aCivilSmall
import Derived.StillTail
namespace Go.Proofs.Qxb6604200a
open Go.RowKit
attribute [local go_sem] run_store_float

theorem region_tail {P : Program} {id : Nat} {Q : Exit → Act → World → Prop} {a : Act} {w : World} {l : List Oper} (n : Nat) (hm : P.follows .mixedOrders = true) (hB : Region.lexTailB .any l.toArray n = true)
    (h : wpStill P l.toArray w.drew (fun a' => wpList P l.toArray Q (l.drop n) a' w.drew) (l.take n) a) : (Code.region id l.toArray true).wp P Q a w := wp_region_still_tail n hm hB h

theorem wpStill_value {P : Program} {ops : Array Oper} {w : World} {Q : Act → Prop} {o : Oper} {rest : List Oper} {a : Act} {v : Value} (hg : o.guard = none)
    (hrun : (execOp a.eval o).run P w = .ok (.value v) w) (h : wpStill P ops w Q rest (a.put o.dst v)) : wpStill P ops w Q (o :: rest) a := by
  have hw : Region.wanted o (yielded ops a.tmps) = true := by unfold Region.wanted; rw [hg]
  unfold wpStill
  rw [hw, if_pos rfl]
  unfold Oper.still
  rw [hrun, Oper.stillUpon_value]
  exact h

theorem setRow_new (Y : World) (old new : Array Value) (t : TypeId) : (Y.alloc (.cells old t)).setRow Y.heap.size new = Y.alloc (.cells new t) := by
  unfold World.setRow World.alloc
  congr 1
  apply Array.ext
  · simp
  · intro k h1 h2
    simp only [Array.getElem_modify]
    split
    · rename_i hk; subst hk; simp
    · rename_i hk
      have hlt : k < Y.heap.size := by simp at h1; omega
      simp [Array.getElem_push, hlt]

theorem heap_new (Y : World) (o : Obj) : (Y.alloc o).heap[Y.heap.size]? = some o := by
  show (Y.heap.push o)[Y.heap.size]? = some o
  simp

/-- a row stored whole into the newest block -/
theorem wpList_store_new {P : Program} {ops : Array Oper} {rest : List Oper} {o : Oper} {a : Act} {Y : World} {Q : Exit → Act → World → Prop} (hgd : o.guard = none) (ty : TypeId) (x y : Operand) (ho : o.op = .store ty x y)
    (new : Array Value) (hx : a.eval x = .pointer (some ⟨Y.heap.size, 0, none⟩)) (hy : a.eval y = .agg new) (t : TypeId) (old : Array Value) (hi : (P.info? ty).map (·.size) = some new.size)
    (hold : old.size = new.size) (h1 : new.all (·.oneCell') = true) (h : wpList P ops Q rest (a.put o.dst undef) (Y.alloc (.cells new t))) : wpList P ops Q (o :: rest) a (Y.alloc (.cells old t)) :=
  wpList_plain hgd fun _ hK => wp_store_row ty x y ho Y.heap.size new hx hy t old (heap_new Y _) hi hold h1 (hK _ _ (by rw [setRow_new]; exact h))

theorem wpList_store_drew {P : Program} {ops : Array Oper} {rest : List Oper} {o : Oper} {a : Act} {Y : World} {Q : Exit → Act → World → Prop} (hgd : o.guard = none) (ty : TypeId) (x y : Operand) (ho : o.op = .store ty x y)
    (g : Nat) (hgY : Y.heap.size = g) (new : Array Value) (hx : a.eval x = .pointer (some ⟨g, 0, none⟩)) (hy : a.eval y = .agg new) (t : TypeId) (old : Array Value) (hi : (P.info? ty).map (·.size) = some new.size)
    (hold : old.size = new.size) (h1 : new.all (·.oneCell') = true) (h : wpList P ops Q rest (a.put o.dst undef) (Y.alloc (.cells new t)).drew) : wpList P ops Q (o :: rest) a (Y.alloc (.cells old t)).drew := by
  subst hgY
  exact wpList_store_new (Y := Y.drew) hgd ty x y ho new hx hy t old hi hold h1 h

theorem heap_at (Y : World) (o : Obj) (g : Nat) (h : Y.heap.size = g) : (Y.alloc o).drew.heap[g]? = some o := by
  subst h
  exact heap_new Y o

theorem results_cell {fn : Func} {p : Tmp} {ty : TypeId} (h : fn.results = #[.cell p ty]) (tmps : Array Value) (P : Program) (w : World) (g : Nat) (cs : Array Value)
    (hp : tmps.getD p undef = .pointer (some ⟨g, 0, none⟩)) (hl : (loadVar ty ⟨g, 0, none⟩).run P w = .ok (.agg cs) w) : (results fn tmps).run P w = .ok (.agg cs) w := by
  have hp' : tmps[p]?.getD undef = .pointer (some ⟨g, 0, none⟩) := by simpa using hp
  have ha : (asAddr (.pointer (some ⟨g, 0, none⟩))).run P w = .ok ⟨g, 0, none⟩ w := rfl
  simp only [results, h]
  simp [Sem.run_bind, hp', ha, hl]

theorem field_read0 {ops : Array Oper} {w : World} {Q : Act → Prop} {rest : List Oper} {a : Act} (d : Nat) {p1 p2 p3 p4 : String} {t1 t2 t3 t4 : TypeId} {f1 f2 f3 f4 : Array Edge} (b : Nat) (v : Value)
    (h0 : a.tmps[0]?.getD undef = .pointer (some ⟨b, 0, none⟩)) (hsz : d + 3 < a.tmps.size) (hcell : w.cell? ⟨b, 0, none⟩ = some v)
    (h : wpStill Try.prog ops w Q rest ((((a.put (some d) (.pointer (some ⟨b, 0, none⟩))).put (some (d + 1)) (.pointer (some ⟨b, 0, none⟩))).put (some (d + 2)) (.pointer (some ⟨b, 0, none⟩))).put (some (d + 3)) v)) :
    wpStill Try.prog ops w Q ({ dst := some d, op := .move (.tmp 0), type := t1, pos := p1, after := f1, guard := none } :: { dst := some (d + 1), op := .nilCheck (.tmp d), type := t2, pos := p2, after := f2, guard := none } ::
      { dst := some (d + 2), op := .fieldAddr 53 (.tmp (d + 1)) 0, type := t3, pos := p3, after := f3, guard := none } :: { dst := some (d + 3), op := .load 2 (.tmp (d + 2)), type := t4, pos := p4, after := f4, guard := none } :: rest) a := by
  have s0 : d < a.tmps.size := by omega
  have s1 : d + 1 < a.tmps.size := by omega
  have s2 : d + 2 < a.tmps.size := by omega
  refine wpStill_value rfl (v := .pointer (some ⟨b, 0, none⟩)) (by simp [go_sem, h0]) ?_
  refine wpStill_value rfl (v := .pointer (some ⟨b, 0, none⟩)) (by simp [go_sem, s0]) ?_
  refine wpStill_value rfl (v := .pointer (some ⟨b, 0, none⟩)) (by simp [go_sem, s1]) ?_
  refine wpStill_value rfl (v := v) (by simp [go_sem, s2, hcell]) ?_
  exact h

theorem field_read1 {ops : Array Oper} {w : World} {Q : Act → Prop} {rest : List Oper} {a : Act} (d : Nat) {p1 p2 p3 p4 : String} {t1 t2 t3 t4 : TypeId} {f1 f2 f3 f4 : Array Edge} (b : Nat) (v : Value)
    (h0 : a.tmps[0]?.getD undef = .pointer (some ⟨b, 0, none⟩)) (hsz : d + 3 < a.tmps.size) (hcell : w.cell? ⟨b, 1, none⟩ = some v)
    (h : wpStill Try.prog ops w Q rest ((((a.put (some d) (.pointer (some ⟨b, 0, none⟩))).put (some (d + 1)) (.pointer (some ⟨b, 0, none⟩))).put (some (d + 2)) (.pointer (some ⟨b, 1, none⟩))).put (some (d + 3)) v)) :
    wpStill Try.prog ops w Q ({ dst := some d, op := .move (.tmp 0), type := t1, pos := p1, after := f1, guard := none } :: { dst := some (d + 1), op := .nilCheck (.tmp d), type := t2, pos := p2, after := f2, guard := none } ::
      { dst := some (d + 2), op := .fieldAddr 53 (.tmp (d + 1)) 1, type := t3, pos := p3, after := f3, guard := none } :: { dst := some (d + 3), op := .load 4 (.tmp (d + 2)), type := t4, pos := p4, after := f4, guard := none } :: rest) a := by
  have s0 : d < a.tmps.size := by omega
  have s1 : d + 1 < a.tmps.size := by omega
  have s2 : d + 2 < a.tmps.size := by omega
  refine wpStill_value rfl (v := .pointer (some ⟨b, 0, none⟩)) (by simp [go_sem, h0]) ?_
  refine wpStill_value rfl (v := .pointer (some ⟨b, 0, none⟩)) (by simp [go_sem, s0]) ?_
  refine wpStill_value rfl (v := .pointer (some ⟨b, 1, none⟩)) (by simp [go_sem, s1]) ?_
  refine wpStill_value rfl (v := v) (by simp [go_sem, s2, hcell]) ?_
  exact h

theorem field_read2 {ops : Array Oper} {w : World} {Q : Act → Prop} {rest : List Oper} {a : Act} (d : Nat) {p1 p2 p3 p4 : String} {t1 t2 t3 t4 : TypeId} {f1 f2 f3 f4 : Array Edge} (b : Nat) (v : Value)
    (h0 : a.tmps[0]?.getD undef = .pointer (some ⟨b, 0, none⟩)) (hsz : d + 3 < a.tmps.size) (hcell : w.cell? ⟨b, 2, none⟩ = some v)
    (h : wpStill Try.prog ops w Q rest ((((a.put (some d) (.pointer (some ⟨b, 0, none⟩))).put (some (d + 1)) (.pointer (some ⟨b, 0, none⟩))).put (some (d + 2)) (.pointer (some ⟨b, 2, none⟩))).put (some (d + 3)) v)) :
    wpStill Try.prog ops w Q ({ dst := some d, op := .move (.tmp 0), type := t1, pos := p1, after := f1, guard := none } :: { dst := some (d + 1), op := .nilCheck (.tmp d), type := t2, pos := p2, after := f2, guard := none } ::
      { dst := some (d + 2), op := .fieldAddr 53 (.tmp (d + 1)) 2, type := t3, pos := p3, after := f3, guard := none } :: { dst := some (d + 3), op := .load 3 (.tmp (d + 2)), type := t4, pos := p4, after := f4, guard := none } :: rest) a := by
  have s0 : d < a.tmps.size := by omega
  have s1 : d + 1 < a.tmps.size := by omega
  have s2 : d + 2 < a.tmps.size := by omega
  refine wpStill_value rfl (v := .pointer (some ⟨b, 0, none⟩)) (by simp [go_sem, h0]) ?_
  refine wpStill_value rfl (v := .pointer (some ⟨b, 0, none⟩)) (by simp [go_sem, s0]) ?_
  refine wpStill_value rfl (v := .pointer (some ⟨b, 2, none⟩)) (by simp [go_sem, s1]) ?_
  refine wpStill_value rfl (v := v) (by simp [go_sem, s2, hcell]) ?_
  exact h

theorem field_read3 {ops : Array Oper} {w : World} {Q : Act → Prop} {rest : List Oper} {a : Act} (d : Nat) {p1 p2 p3 p4 : String} {t1 t2 t3 t4 : TypeId} {f1 f2 f3 f4 : Array Edge} (b : Nat) (v : Value)
    (h0 : a.tmps[0]?.getD undef = .pointer (some ⟨b, 0, none⟩)) (hsz : d + 3 < a.tmps.size) (hcell : w.cell? ⟨b, 3, none⟩ = some v)
    (h : wpStill Try.prog ops w Q rest ((((a.put (some d) (.pointer (some ⟨b, 0, none⟩))).put (some (d + 1)) (.pointer (some ⟨b, 0, none⟩))).put (some (d + 2)) (.pointer (some ⟨b, 3, none⟩))).put (some (d + 3)) v)) :
    wpStill Try.prog ops w Q ({ dst := some d, op := .move (.tmp 0), type := t1, pos := p1, after := f1, guard := none } :: { dst := some (d + 1), op := .nilCheck (.tmp d), type := t2, pos := p2, after := f2, guard := none } ::
      { dst := some (d + 2), op := .fieldAddr 53 (.tmp (d + 1)) 3, type := t3, pos := p3, after := f3, guard := none } :: { dst := some (d + 3), op := .load 3 (.tmp (d + 2)), type := t4, pos := p4, after := f4, guard := none } :: rest) a := by
  have s0 : d < a.tmps.size := by omega
  have s1 : d + 1 < a.tmps.size := by omega
  have s2 : d + 2 < a.tmps.size := by omega
  refine wpStill_value rfl (v := .pointer (some ⟨b, 0, none⟩)) (by simp [go_sem, h0]) ?_
  refine wpStill_value rfl (v := .pointer (some ⟨b, 0, none⟩)) (by simp [go_sem, s0]) ?_
  refine wpStill_value rfl (v := .pointer (some ⟨b, 3, none⟩)) (by simp [go_sem, s1]) ?_
  refine wpStill_value rfl (v := v) (by simp [go_sem, s2, hcell]) ?_
  exact h

theorem field_read4 {ops : Array Oper} {w : World} {Q : Act → Prop} {rest : List Oper} {a : Act} (d : Nat) {p1 p2 p3 p4 : String} {t1 t2 t3 t4 : TypeId} {f1 f2 f3 f4 : Array Edge} (b : Nat) (v : Value)
    (h0 : a.tmps[0]?.getD undef = .pointer (some ⟨b, 0, none⟩)) (hsz : d + 3 < a.tmps.size) (hcell : w.cell? ⟨b, 4, none⟩ = some v)
    (h : wpStill Try.prog ops w Q rest ((((a.put (some d) (.pointer (some ⟨b, 0, none⟩))).put (some (d + 1)) (.pointer (some ⟨b, 0, none⟩))).put (some (d + 2)) (.pointer (some ⟨b, 4, none⟩))).put (some (d + 3)) v)) :
    wpStill Try.prog ops w Q ({ dst := some d, op := .move (.tmp 0), type := t1, pos := p1, after := f1, guard := none } :: { dst := some (d + 1), op := .nilCheck (.tmp d), type := t2, pos := p2, after := f2, guard := none } ::
      { dst := some (d + 2), op := .fieldAddr 53 (.tmp (d + 1)) 4, type := t3, pos := p3, after := f3, guard := none } :: { dst := some (d + 3), op := .load 3 (.tmp (d + 2)), type := t4, pos := p4, after := f4, guard := none } :: rest) a := by
  have s0 : d < a.tmps.size := by omega
  have s1 : d + 1 < a.tmps.size := by omega
  have s2 : d + 2 < a.tmps.size := by omega
  refine wpStill_value rfl (v := .pointer (some ⟨b, 0, none⟩)) (by simp [go_sem, h0]) ?_
  refine wpStill_value rfl (v := .pointer (some ⟨b, 0, none⟩)) (by simp [go_sem, s0]) ?_
  refine wpStill_value rfl (v := .pointer (some ⟨b, 4, none⟩)) (by simp [go_sem, s1]) ?_
  refine wpStill_value rfl (v := v) (by simp [go_sem, s2, hcell]) ?_
  exact h

theorem field_read5 {ops : Array Oper} {w : World} {Q : Act → Prop} {rest : List Oper} {a : Act} (d : Nat) {p1 p2 p3 p4 : String} {t1 t2 t3 t4 : TypeId} {f1 f2 f3 f4 : Array Edge} (b : Nat) (v : Value)
    (h0 : a.tmps[0]?.getD undef = .pointer (some ⟨b, 0, none⟩)) (hsz : d + 3 < a.tmps.size) (hcell : w.cell? ⟨b, 5, none⟩ = some v)
    (h : wpStill Try.prog ops w Q rest ((((a.put (some d) (.pointer (some ⟨b, 0, none⟩))).put (some (d + 1)) (.pointer (some ⟨b, 0, none⟩))).put (some (d + 2)) (.pointer (some ⟨b, 5, none⟩))).put (some (d + 3)) v)) :
    wpStill Try.prog ops w Q ({ dst := some d, op := .move (.tmp 0), type := t1, pos := p1, after := f1, guard := none } :: { dst := some (d + 1), op := .nilCheck (.tmp d), type := t2, pos := p2, after := f2, guard := none } ::
      { dst := some (d + 2), op := .fieldAddr 53 (.tmp (d + 1)) 5, type := t3, pos := p3, after := f3, guard := none } :: { dst := some (d + 3), op := .load 4 (.tmp (d + 2)), type := t4, pos := p4, after := f4, guard := none } :: rest) a := by
  have s0 : d < a.tmps.size := by omega
  have s1 : d + 1 < a.tmps.size := by omega
  have s2 : d + 2 < a.tmps.size := by omega
  refine wpStill_value rfl (v := .pointer (some ⟨b, 0, none⟩)) (by simp [go_sem, h0]) ?_
  refine wpStill_value rfl (v := .pointer (some ⟨b, 0, none⟩)) (by simp [go_sem, s0]) ?_
  refine wpStill_value rfl (v := .pointer (some ⟨b, 5, none⟩)) (by simp [go_sem, s1]) ?_
  refine wpStill_value rfl (v := v) (by simp [go_sem, s2, hcell]) ?_
  exact h

theorem field_read6 {ops : Array Oper} {w : World} {Q : Act → Prop} {rest : List Oper} {a : Act} (d : Nat) {p1 p2 p3 p4 : String} {t1 t2 t3 t4 : TypeId} {f1 f2 f3 f4 : Array Edge} (b : Nat) (v : Value)
    (h0 : a.tmps[0]?.getD undef = .pointer (some ⟨b, 0, none⟩)) (hsz : d + 3 < a.tmps.size) (hcell : w.cell? ⟨b, 6, none⟩ = some v)
    (h : wpStill Try.prog ops w Q rest ((((a.put (some d) (.pointer (some ⟨b, 0, none⟩))).put (some (d + 1)) (.pointer (some ⟨b, 0, none⟩))).put (some (d + 2)) (.pointer (some ⟨b, 6, none⟩))).put (some (d + 3)) v)) :
    wpStill Try.prog ops w Q ({ dst := some d, op := .move (.tmp 0), type := t1, pos := p1, after := f1, guard := none } :: { dst := some (d + 1), op := .nilCheck (.tmp d), type := t2, pos := p2, after := f2, guard := none } ::
      { dst := some (d + 2), op := .fieldAddr 53 (.tmp (d + 1)) 6, type := t3, pos := p3, after := f3, guard := none } :: { dst := some (d + 3), op := .load 3 (.tmp (d + 2)), type := t4, pos := p4, after := f4, guard := none } :: rest) a := by
  have s0 : d < a.tmps.size := by omega
  have s1 : d + 1 < a.tmps.size := by omega
  have s2 : d + 2 < a.tmps.size := by omega
  refine wpStill_value rfl (v := .pointer (some ⟨b, 0, none⟩)) (by simp [go_sem, h0]) ?_
  refine wpStill_value rfl (v := .pointer (some ⟨b, 0, none⟩)) (by simp [go_sem, s0]) ?_
  refine wpStill_value rfl (v := .pointer (some ⟨b, 6, none⟩)) (by simp [go_sem, s1]) ?_
  refine wpStill_value rfl (v := v) (by simp [go_sem, s2, hcell]) ?_
  exact h

theorem field_read7 {ops : Array Oper} {w : World} {Q : Act → Prop} {rest : List Oper} {a : Act} (d : Nat) {p1 p2 p3 p4 : String} {t1 t2 t3 t4 : TypeId} {f1 f2 f3 f4 : Array Edge} (b : Nat) (v : Value)
    (h0 : a.tmps[0]?.getD undef = .pointer (some ⟨b, 0, none⟩)) (hsz : d + 3 < a.tmps.size) (hcell : w.cell? ⟨b, 7, none⟩ = some v)
    (h : wpStill Try.prog ops w Q rest ((((a.put (some d) (.pointer (some ⟨b, 0, none⟩))).put (some (d + 1)) (.pointer (some ⟨b, 0, none⟩))).put (some (d + 2)) (.pointer (some ⟨b, 7, none⟩))).put (some (d + 3)) v)) :
    wpStill Try.prog ops w Q ({ dst := some d, op := .move (.tmp 0), type := t1, pos := p1, after := f1, guard := none } :: { dst := some (d + 1), op := .nilCheck (.tmp d), type := t2, pos := p2, after := f2, guard := none } ::
      { dst := some (d + 2), op := .fieldAddr 53 (.tmp (d + 1)) 7, type := t3, pos := p3, after := f3, guard := none } :: { dst := some (d + 3), op := .load 3 (.tmp (d + 2)), type := t4, pos := p4, after := f4, guard := none } :: rest) a := by
  have s0 : d < a.tmps.size := by omega
  have s1 : d + 1 < a.tmps.size := by omega
  have s2 : d + 2 < a.tmps.size := by omega
  refine wpStill_value rfl (v := .pointer (some ⟨b, 0, none⟩)) (by simp [go_sem, h0]) ?_
  refine wpStill_value rfl (v := .pointer (some ⟨b, 0, none⟩)) (by simp [go_sem, s0]) ?_
  refine wpStill_value rfl (v := .pointer (some ⟨b, 7, none⟩)) (by simp [go_sem, s1]) ?_
  refine wpStill_value rfl (v := v) (by simp [go_sem, s2, hcell]) ?_
  exact h

theorem field_read8 {ops : Array Oper} {w : World} {Q : Act → Prop} {rest : List Oper} {a : Act} (d : Nat) {p1 p2 p3 p4 : String} {t1 t2 t3 t4 : TypeId} {f1 f2 f3 f4 : Array Edge} (b : Nat) (v : Value)
    (h0 : a.tmps[0]?.getD undef = .pointer (some ⟨b, 0, none⟩)) (hsz : d + 3 < a.tmps.size) (hcell : w.cell? ⟨b, 8, none⟩ = some v)
    (h : wpStill Try.prog ops w Q rest ((((a.put (some d) (.pointer (some ⟨b, 0, none⟩))).put (some (d + 1)) (.pointer (some ⟨b, 0, none⟩))).put (some (d + 2)) (.pointer (some ⟨b, 8, none⟩))).put (some (d + 3)) v)) :
    wpStill Try.prog ops w Q ({ dst := some d, op := .move (.tmp 0), type := t1, pos := p1, after := f1, guard := none } :: { dst := some (d + 1), op := .nilCheck (.tmp d), type := t2, pos := p2, after := f2, guard := none } ::
      { dst := some (d + 2), op := .fieldAddr 53 (.tmp (d + 1)) 8, type := t3, pos := p3, after := f3, guard := none } :: { dst := some (d + 3), op := .load 28 (.tmp (d + 2)), type := t4, pos := p4, after := f4, guard := none } :: rest) a := by
  have s0 : d < a.tmps.size := by omega
  have s1 : d + 1 < a.tmps.size := by omega
  have s2 : d + 2 < a.tmps.size := by omega
  refine wpStill_value rfl (v := .pointer (some ⟨b, 0, none⟩)) (by simp [go_sem, h0]) ?_
  refine wpStill_value rfl (v := .pointer (some ⟨b, 0, none⟩)) (by simp [go_sem, s0]) ?_
  refine wpStill_value rfl (v := .pointer (some ⟨b, 8, none⟩)) (by simp [go_sem, s1]) ?_
  refine wpStill_value rfl (v := v) (by simp [go_sem, s2, hcell]) ?_
  exact h

theorem field_read9 {ops : Array Oper} {w : World} {Q : Act → Prop} {rest : List Oper} {a : Act} (d : Nat) {p1 p2 p3 p4 : String} {t1 t2 t3 t4 : TypeId} {f1 f2 f3 f4 : Array Edge} (b : Nat) (v : Value)
    (h0 : a.tmps[0]?.getD undef = .pointer (some ⟨b, 0, none⟩)) (hsz : d + 3 < a.tmps.size) (hcell : w.cell? ⟨b, 9, none⟩ = some v)
    (h : wpStill Try.prog ops w Q rest ((((a.put (some d) (.pointer (some ⟨b, 0, none⟩))).put (some (d + 1)) (.pointer (some ⟨b, 0, none⟩))).put (some (d + 2)) (.pointer (some ⟨b, 9, none⟩))).put (some (d + 3)) v)) :
    wpStill Try.prog ops w Q ({ dst := some d, op := .move (.tmp 0), type := t1, pos := p1, after := f1, guard := none } :: { dst := some (d + 1), op := .nilCheck (.tmp d), type := t2, pos := p2, after := f2, guard := none } ::
      { dst := some (d + 2), op := .fieldAddr 53 (.tmp (d + 1)) 9, type := t3, pos := p3, after := f3, guard := none } :: { dst := some (d + 3), op := .load 4 (.tmp (d + 2)), type := t4, pos := p4, after := f4, guard := none } :: rest) a := by
  have s0 : d < a.tmps.size := by omega
  have s1 : d + 1 < a.tmps.size := by omega
  have s2 : d + 2 < a.tmps.size := by omega
  refine wpStill_value rfl (v := .pointer (some ⟨b, 0, none⟩)) (by simp [go_sem, h0]) ?_
  refine wpStill_value rfl (v := .pointer (some ⟨b, 0, none⟩)) (by simp [go_sem, s0]) ?_
  refine wpStill_value rfl (v := .pointer (some ⟨b, 9, none⟩)) (by simp [go_sem, s1]) ?_
  refine wpStill_value rfl (v := v) (by simp [go_sem, s2, hcell]) ?_
  exact h

theorem field_read10 {ops : Array Oper} {w : World} {Q : Act → Prop} {rest : List Oper} {a : Act} (d : Nat) {p1 p2 p3 p4 : String} {t1 t2 t3 t4 : TypeId} {f1 f2 f3 f4 : Array Edge} (b : Nat) (v : Value)
    (h0 : a.tmps[0]?.getD undef = .pointer (some ⟨b, 0, none⟩)) (hsz : d + 3 < a.tmps.size) (hcell : w.cell? ⟨b, 10, none⟩ = some v)
    (h : wpStill Try.prog ops w Q rest ((((a.put (some d) (.pointer (some ⟨b, 0, none⟩))).put (some (d + 1)) (.pointer (some ⟨b, 0, none⟩))).put (some (d + 2)) (.pointer (some ⟨b, 10, none⟩))).put (some (d + 3)) v)) :
    wpStill Try.prog ops w Q ({ dst := some d, op := .move (.tmp 0), type := t1, pos := p1, after := f1, guard := none } :: { dst := some (d + 1), op := .nilCheck (.tmp d), type := t2, pos := p2, after := f2, guard := none } ::
      { dst := some (d + 2), op := .fieldAddr 53 (.tmp (d + 1)) 10, type := t3, pos := p3, after := f3, guard := none } :: { dst := some (d + 3), op := .load 28 (.tmp (d + 2)), type := t4, pos := p4, after := f4, guard := none } :: rest) a := by
  have s0 : d < a.tmps.size := by omega
  have s1 : d + 1 < a.tmps.size := by omega
  have s2 : d + 2 < a.tmps.size := by omega
  refine wpStill_value rfl (v := .pointer (some ⟨b, 0, none⟩)) (by simp [go_sem, h0]) ?_
  refine wpStill_value rfl (v := .pointer (some ⟨b, 0, none⟩)) (by simp [go_sem, s0]) ?_
  refine wpStill_value rfl (v := .pointer (some ⟨b, 10, none⟩)) (by simp [go_sem, s1]) ?_
  refine wpStill_value rfl (v := v) (by simp [go_sem, s2, hcell]) ?_
  exact h

theorem field_read11 {ops : Array Oper} {w : World} {Q : Act → Prop} {rest : List Oper} {a : Act} (d : Nat) {p1 p2 p3 p4 : String} {t1 t2 t3 t4 : TypeId} {f1 f2 f3 f4 : Array Edge} (b : Nat) (v : Value)
    (h0 : a.tmps[0]?.getD undef = .pointer (some ⟨b, 0, none⟩)) (hsz : d + 3 < a.tmps.size) (hcell : w.cell? ⟨b, 11, none⟩ = some v)
    (h : wpStill Try.prog ops w Q rest ((((a.put (some d) (.pointer (some ⟨b, 0, none⟩))).put (some (d + 1)) (.pointer (some ⟨b, 0, none⟩))).put (some (d + 2)) (.pointer (some ⟨b, 11, none⟩))).put (some (d + 3)) v)) :
    wpStill Try.prog ops w Q ({ dst := some d, op := .move (.tmp 0), type := t1, pos := p1, after := f1, guard := none } :: { dst := some (d + 1), op := .nilCheck (.tmp d), type := t2, pos := p2, after := f2, guard := none } ::
      { dst := some (d + 2), op := .fieldAddr 53 (.tmp (d + 1)) 11, type := t3, pos := p3, after := f3, guard := none } :: { dst := some (d + 3), op := .load 4 (.tmp (d + 2)), type := t4, pos := p4, after := f4, guard := none } :: rest) a := by
  have s0 : d < a.tmps.size := by omega
  have s1 : d + 1 < a.tmps.size := by omega
  have s2 : d + 2 < a.tmps.size := by omega
  refine wpStill_value rfl (v := .pointer (some ⟨b, 0, none⟩)) (by simp [go_sem, h0]) ?_
  refine wpStill_value rfl (v := .pointer (some ⟨b, 0, none⟩)) (by simp [go_sem, s0]) ?_
  refine wpStill_value rfl (v := .pointer (some ⟨b, 11, none⟩)) (by simp [go_sem, s1]) ?_
  refine wpStill_value rfl (v := v) (by simp [go_sem, s2, hcell]) ?_
  exact h

theorem field_read12 {ops : Array Oper} {w : World} {Q : Act → Prop} {rest : List Oper} {a : Act} (d : Nat) {p1 p2 p3 p4 : String} {t1 t2 t3 t4 : TypeId} {f1 f2 f3 f4 : Array Edge} (b : Nat) (v : Value)
    (h0 : a.tmps[0]?.getD undef = .pointer (some ⟨b, 0, none⟩)) (hsz : d + 3 < a.tmps.size) (hcell : w.cell? ⟨b, 12, none⟩ = some v)
    (h : wpStill Try.prog ops w Q rest ((((a.put (some d) (.pointer (some ⟨b, 0, none⟩))).put (some (d + 1)) (.pointer (some ⟨b, 0, none⟩))).put (some (d + 2)) (.pointer (some ⟨b, 12, none⟩))).put (some (d + 3)) v)) :
    wpStill Try.prog ops w Q ({ dst := some d, op := .move (.tmp 0), type := t1, pos := p1, after := f1, guard := none } :: { dst := some (d + 1), op := .nilCheck (.tmp d), type := t2, pos := p2, after := f2, guard := none } ::
      { dst := some (d + 2), op := .fieldAddr 53 (.tmp (d + 1)) 12, type := t3, pos := p3, after := f3, guard := none } :: { dst := some (d + 3), op := .load 3 (.tmp (d + 2)), type := t4, pos := p4, after := f4, guard := none } :: rest) a := by
  have s0 : d < a.tmps.size := by omega
  have s1 : d + 1 < a.tmps.size := by omega
  have s2 : d + 2 < a.tmps.size := by omega
  refine wpStill_value rfl (v := .pointer (some ⟨b, 0, none⟩)) (by simp [go_sem, h0]) ?_
  refine wpStill_value rfl (v := .pointer (some ⟨b, 0, none⟩)) (by simp [go_sem, s0]) ?_
  refine wpStill_value rfl (v := .pointer (some ⟨b, 12, none⟩)) (by simp [go_sem, s1]) ?_
  refine wpStill_value rfl (v := v) (by simp [go_sem, s2, hcell]) ?_
  exact h

theorem field_read13 {ops : Array Oper} {w : World} {Q : Act → Prop} {rest : List Oper} {a : Act} (d : Nat) {p1 p2 p3 p4 : String} {t1 t2 t3 t4 : TypeId} {f1 f2 f3 f4 : Array Edge} (b : Nat) (v : Value)
    (h0 : a.tmps[0]?.getD undef = .pointer (some ⟨b, 0, none⟩)) (hsz : d + 3 < a.tmps.size) (hcell : w.cell? ⟨b, 13, none⟩ = some v)
    (h : wpStill Try.prog ops w Q rest ((((a.put (some d) (.pointer (some ⟨b, 0, none⟩))).put (some (d + 1)) (.pointer (some ⟨b, 0, none⟩))).put (some (d + 2)) (.pointer (some ⟨b, 13, none⟩))).put (some (d + 3)) v)) :
    wpStill Try.prog ops w Q ({ dst := some d, op := .move (.tmp 0), type := t1, pos := p1, after := f1, guard := none } :: { dst := some (d + 1), op := .nilCheck (.tmp d), type := t2, pos := p2, after := f2, guard := none } ::
      { dst := some (d + 2), op := .fieldAddr 53 (.tmp (d + 1)) 13, type := t3, pos := p3, after := f3, guard := none } :: { dst := some (d + 3), op := .load 4 (.tmp (d + 2)), type := t4, pos := p4, after := f4, guard := none } :: rest) a := by
  have s0 : d < a.tmps.size := by omega
  have s1 : d + 1 < a.tmps.size := by omega
  have s2 : d + 2 < a.tmps.size := by omega
  refine wpStill_value rfl (v := .pointer (some ⟨b, 0, none⟩)) (by simp [go_sem, h0]) ?_
  refine wpStill_value rfl (v := .pointer (some ⟨b, 0, none⟩)) (by simp [go_sem, s0]) ?_
  refine wpStill_value rfl (v := .pointer (some ⟨b, 13, none⟩)) (by simp [go_sem, s1]) ?_
  refine wpStill_value rfl (v := v) (by simp [go_sem, s2, hcell]) ?_
  exact h

theorem field_read14 {ops : Array Oper} {w : World} {Q : Act → Prop} {rest : List Oper} {a : Act} (d : Nat) {p1 p2 p3 p4 : String} {t1 t2 t3 t4 : TypeId} {f1 f2 f3 f4 : Array Edge} (b : Nat) (v : Value)
    (h0 : a.tmps[0]?.getD undef = .pointer (some ⟨b, 0, none⟩)) (hsz : d + 3 < a.tmps.size) (hcell : w.cell? ⟨b, 14, none⟩ = some v)
    (h : wpStill Try.prog ops w Q rest ((((a.put (some d) (.pointer (some ⟨b, 0, none⟩))).put (some (d + 1)) (.pointer (some ⟨b, 0, none⟩))).put (some (d + 2)) (.pointer (some ⟨b, 14, none⟩))).put (some (d + 3)) v)) :
    wpStill Try.prog ops w Q ({ dst := some d, op := .move (.tmp 0), type := t1, pos := p1, after := f1, guard := none } :: { dst := some (d + 1), op := .nilCheck (.tmp d), type := t2, pos := p2, after := f2, guard := none } ::
      { dst := some (d + 2), op := .fieldAddr 53 (.tmp (d + 1)) 14, type := t3, pos := p3, after := f3, guard := none } :: { dst := some (d + 3), op := .load 4 (.tmp (d + 2)), type := t4, pos := p4, after := f4, guard := none } :: rest) a := by
  have s0 : d < a.tmps.size := by omega
  have s1 : d + 1 < a.tmps.size := by omega
  have s2 : d + 2 < a.tmps.size := by omega
  refine wpStill_value rfl (v := .pointer (some ⟨b, 0, none⟩)) (by simp [go_sem, h0]) ?_
  refine wpStill_value rfl (v := .pointer (some ⟨b, 0, none⟩)) (by simp [go_sem, s0]) ?_
  refine wpStill_value rfl (v := .pointer (some ⟨b, 14, none⟩)) (by simp [go_sem, s1]) ?_
  refine wpStill_value rfl (v := v) (by simp [go_sem, s2, hcell]) ?_
  exact h

theorem field_read15 {ops : Array Oper} {w : World} {Q : Act → Prop} {rest : List Oper} {a : Act} (d : Nat) {p1 p2 p3 p4 : String} {t1 t2 t3 t4 : TypeId} {f1 f2 f3 f4 : Array Edge} (b : Nat) (v : Value)
    (h0 : a.tmps[0]?.getD undef = .pointer (some ⟨b, 0, none⟩)) (hsz : d + 3 < a.tmps.size) (hcell : w.cell? ⟨b, 15, none⟩ = some v)
    (h : wpStill Try.prog ops w Q rest ((((a.put (some d) (.pointer (some ⟨b, 0, none⟩))).put (some (d + 1)) (.pointer (some ⟨b, 0, none⟩))).put (some (d + 2)) (.pointer (some ⟨b, 15, none⟩))).put (some (d + 3)) v)) :
    wpStill Try.prog ops w Q ({ dst := some d, op := .move (.tmp 0), type := t1, pos := p1, after := f1, guard := none } :: { dst := some (d + 1), op := .nilCheck (.tmp d), type := t2, pos := p2, after := f2, guard := none } ::
      { dst := some (d + 2), op := .fieldAddr 53 (.tmp (d + 1)) 15, type := t3, pos := p3, after := f3, guard := none } :: { dst := some (d + 3), op := .load 4 (.tmp (d + 2)), type := t4, pos := p4, after := f4, guard := none } :: rest) a := by
  have s0 : d < a.tmps.size := by omega
  have s1 : d + 1 < a.tmps.size := by omega
  have s2 : d + 2 < a.tmps.size := by omega
  refine wpStill_value rfl (v := .pointer (some ⟨b, 0, none⟩)) (by simp [go_sem, h0]) ?_
  refine wpStill_value rfl (v := .pointer (some ⟨b, 0, none⟩)) (by simp [go_sem, s0]) ?_
  refine wpStill_value rfl (v := .pointer (some ⟨b, 15, none⟩)) (by simp [go_sem, s1]) ?_
  refine wpStill_value rfl (v := v) (by simp [go_sem, s2, hcell]) ?_
  exact h

theorem field_read16 {ops : Array Oper} {w : World} {Q : Act → Prop} {rest : List Oper} {a : Act} (d : Nat) {p1 p2 p3 p4 : String} {t1 t2 t3 t4 : TypeId} {f1 f2 f3 f4 : Array Edge} (b : Nat) (v : Value)
    (h0 : a.tmps[0]?.getD undef = .pointer (some ⟨b, 0, none⟩)) (hsz : d + 3 < a.tmps.size) (hcell : w.cell? ⟨b, 16, none⟩ = some v)
    (h : wpStill Try.prog ops w Q rest ((((a.put (some d) (.pointer (some ⟨b, 0, none⟩))).put (some (d + 1)) (.pointer (some ⟨b, 0, none⟩))).put (some (d + 2)) (.pointer (some ⟨b, 16, none⟩))).put (some (d + 3)) v)) :
    wpStill Try.prog ops w Q ({ dst := some d, op := .move (.tmp 0), type := t1, pos := p1, after := f1, guard := none } :: { dst := some (d + 1), op := .nilCheck (.tmp d), type := t2, pos := p2, after := f2, guard := none } ::
      { dst := some (d + 2), op := .fieldAddr 53 (.tmp (d + 1)) 16, type := t3, pos := p3, after := f3, guard := none } :: { dst := some (d + 3), op := .load 3 (.tmp (d + 2)), type := t4, pos := p4, after := f4, guard := none } :: rest) a := by
  have s0 : d < a.tmps.size := by omega
  have s1 : d + 1 < a.tmps.size := by omega
  have s2 : d + 2 < a.tmps.size := by omega
  refine wpStill_value rfl (v := .pointer (some ⟨b, 0, none⟩)) (by simp [go_sem, h0]) ?_
  refine wpStill_value rfl (v := .pointer (some ⟨b, 0, none⟩)) (by simp [go_sem, s0]) ?_
  refine wpStill_value rfl (v := .pointer (some ⟨b, 16, none⟩)) (by simp [go_sem, s1]) ?_
  refine wpStill_value rfl (v := v) (by simp [go_sem, s2, hcell]) ?_
  exact h

theorem field_read17 {ops : Array Oper} {w : World} {Q : Act → Prop} {rest : List Oper} {a : Act} (d : Nat) {p1 p2 p3 p4 : String} {t1 t2 t3 t4 : TypeId} {f1 f2 f3 f4 : Array Edge} (b : Nat) (v : Value)
    (h0 : a.tmps[0]?.getD undef = .pointer (some ⟨b, 0, none⟩)) (hsz : d + 3 < a.tmps.size) (hcell : w.cell? ⟨b, 17, none⟩ = some v)
    (h : wpStill Try.prog ops w Q rest ((((a.put (some d) (.pointer (some ⟨b, 0, none⟩))).put (some (d + 1)) (.pointer (some ⟨b, 0, none⟩))).put (some (d + 2)) (.pointer (some ⟨b, 17, none⟩))).put (some (d + 3)) v)) :
    wpStill Try.prog ops w Q ({ dst := some d, op := .move (.tmp 0), type := t1, pos := p1, after := f1, guard := none } :: { dst := some (d + 1), op := .nilCheck (.tmp d), type := t2, pos := p2, after := f2, guard := none } ::
      { dst := some (d + 2), op := .fieldAddr 53 (.tmp (d + 1)) 17, type := t3, pos := p3, after := f3, guard := none } :: { dst := some (d + 3), op := .load 4 (.tmp (d + 2)), type := t4, pos := p4, after := f4, guard := none } :: rest) a := by
  have s0 : d < a.tmps.size := by omega
  have s1 : d + 1 < a.tmps.size := by omega
  have s2 : d + 2 < a.tmps.size := by omega
  refine wpStill_value rfl (v := .pointer (some ⟨b, 0, none⟩)) (by simp [go_sem, h0]) ?_
  refine wpStill_value rfl (v := .pointer (some ⟨b, 0, none⟩)) (by simp [go_sem, s0]) ?_
  refine wpStill_value rfl (v := .pointer (some ⟨b, 17, none⟩)) (by simp [go_sem, s1]) ?_
  refine wpStill_value rfl (v := v) (by simp [go_sem, s2, hcell]) ?_
  exact h

end Go.Proofs.Qxb6604200a
