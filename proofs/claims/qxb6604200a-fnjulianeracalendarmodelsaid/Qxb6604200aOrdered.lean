/-
  The walks of zzCivilDateInBounds and of FnCivilOrderedAndBounded.
-/
import Derived.Test.Qxb6604200aCivilCall
namespace Go.Proofs.Qxb6604200a
open Go.RowKit

theorem cell_heap {w : World} {b : Nat} {D : Array Value} {t : TypeId} (hg : w.heap[b]? = some (.cells D t)) (i : Nat) (v : Value) (h : D[i]? = some v) : w.cell? ⟨b, i, none⟩ = some v := by
  simp [World.cell?, hg, h]

theorem cell_row (w : World) (D : Array Value) (t : TypeId) (i : Nat) (v : Value) (h : D[i]? = some v) : (w.alloc (.cells D t)).cell? ⟨w.heap.size, i, none⟩ = some v :=
  cell_heap (heap_new w _) i v h

/-- a row loaded under a guard that says yes -/
theorem wpList_load_guard {P : Program} {ops : Array Oper} {rest : List Oper} {o : Oper} {a : Act} {w : World} {Q : Exit → Act → World → Prop} (ty : TypeId) (x : Operand) (ho : o.op = .load ty x) (hw : Region.wanted o (yielded ops a.tmps) = true)
    (g : Nat) (hx : a.eval x = .pointer (some ⟨g, 0, none⟩)) (t : TypeId) (cs : Array Value) (fr : Nat × Nat) (d : TypeDesc) (hg : w.heap[g]? = some (.cells cs t fr))
    (hu : P.underlying ty = some d) (hd : (match d with | .struct _ | .array _ _ => true | _ => false) = true) (hi : (P.info? ty).map (·.size) = some cs.size)
    (h : wpList P ops Q rest (a.put o.dst (.agg cs)) w) : wpList P ops Q (o :: rest) a w :=
  wpList_step fun _ hK => by
    rw [if_pos hw]
    exact wp_load_row ty x ho g hx t cs fr d hg hu hd hi (hK _ _ h)

set_option maxHeartbeats 1000000 in
set_option maxRecDepth 10000 in
theorem bounds27 (D : Array Value) (jd y m d : Int) (w : World) (d17 : D[17]? = some (.bool false)) (d5 : D[5]? = some (.bool true)) (d1 : D[1]? = some (.bool true)) (d0 : D[0]? = some (.int .i64 jd))
    (d2 : D[2]? = some (.int .i64 y)) (d3 : D[3]? = some (.int .i64 m)) (d4 : D[4]? = some (.int .i64 d)) (y1 : -4713 ≤ y) (y2 : y ≤ 9999) (m1 : 1 ≤ m) (m2 : m ≤ 12) (e1 : 1 ≤ d) (e2 : d ≤ 31) :
    Calls Try.prog 27 #[.agg D, .int .i64 jd] w fun e w' => e = .returned (.bool true) ∧ Ext w w' := by
  have c17 := cell_row w D 32 17 _ d17
  have c5 := cell_row w D 32 5 _ d5
  have c1 := cell_row w D 32 1 _ d1
  have c0 := cell_row w D 32 0 _ d0
  have c2 := cell_row w D 32 2 _ d2
  have c3 := cell_row w D 32 3 _ d3
  have c4 := cell_row w D 32 4 _ d4
  clear d17 d5 d1 d0 d2 d3 d4
  have hb : (jd == jd) = true := by simp
  go_enter Try.func27, Try.ntmps27
  go_wp2
  go_ret
  exact ⟨rfl, ext_alloc w D 32⟩

/-- what ZZCivil makes of a julian day, as a row D -/
theorem civ_fact (jd : Int) (h1 : 0 ≤ jd) (h2 : jd ≤ 464269060799999) {E q t v r y m d : Int} (hd : Cal.Dec ((jd + 43200000) / 86400000 - 1721120) E q t v r) (hi : Cal.IsDate E q t v r y m d) :
    ∃ D : Array Value, (∀ w, Calls Try.prog 24 #[.agg #[.int .i64 jd, .bool true, .int .i64 0, .int .i64 0, .int .i64 0, .bool false, .int .i64 0, .int .i64 0, .float .f64 0, .bool false, .float .f64 0, .bool false, .int .i64 0, .bool false, .bool false, .bool false, .int .i64 0, .bool false]] w fun e w' => e = .returned (.agg D) ∧ Ext w w') ∧ (Try.prog.info? 32).map (·.size) = some D.size ∧ 18 = D.size ∧ D.all (·.oneCell') = true ∧
      D[17]? = some (.bool false) ∧ D[5]? = some (.bool true) ∧ D[1]? = some (.bool true) ∧ D[0]? = some (.int .i64 jd) ∧ D[2]? = some (.int .i64 y) ∧ D[3]? = some (.int .i64 m) ∧ D[4]? = some (.int .i64 d) :=
  ⟨row jd true y m d true 0 0 0 false 0 false 0 false false false 0 false, fun w => zzCivil_date jd 0 0 0 0 0 0 0 0 0 false false false false false false w h1 h2 hd hi, size32 jd y m d 0 0 0 0 0 0 true true false false false false false false, rfl, one18 jd y m d 0 0 0 0 0 0 true true false false false false false false, rfl, rfl, rfl, rfl, rfl, rfl, rfl⟩

set_option maxHeartbeats 1000000 in
set_option maxRecDepth 10000 in
theorem ordered_core (jd1 jd2 lo hi : Int) (w : World) (hlh : (jd1 ≤ jd2 ∧ lo = jd1 ∧ hi = jd2) ∨ (jd2 < jd1 ∧ lo = jd2 ∧ hi = jd1)) (l1 : 0 ≤ jd1) (l2 : jd1 ≤ 464269060799999) (k1 : 0 ≤ jd2) (k2 : jd2 ≤ 464269060799999)
    (D1 D2 : Array Value) (y1 m1 d1 y2 m2 d2 : Int) (c1 : Hid (∀ w, Calls Try.prog 24 #[.agg #[.int .i64 lo, .bool true, .int .i64 0, .int .i64 0, .int .i64 0, .bool false, .int .i64 0, .int .i64 0, .float .f64 0, .bool false, .float .f64 0, .bool false, .int .i64 0, .bool false, .bool false, .bool false, .int .i64 0, .bool false]] w fun e w' => e = .returned (.agg D1) ∧ Ext w w')) (c2 : Hid (∀ w, Calls Try.prog 24 #[.agg #[.int .i64 hi, .bool true, .int .i64 0, .int .i64 0, .int .i64 0, .bool false, .int .i64 0, .int .i64 0, .float .f64 0, .bool false, .float .f64 0, .bool false, .int .i64 0, .bool false, .bool false, .bool false, .int .i64 0, .bool false]] w fun e w' => e = .returned (.agg D2) ∧ Ext w w'))
    (S1 : Hid ((Try.prog.info? 32).map (·.size) = some D1.size)) (S2 : Hid ((Try.prog.info? 32).map (·.size) = some D2.size)) (Z1 : Hid (18 = D1.size)) (Z2 : Hid (18 = D2.size)) (O1 : Hid (D1.all (·.oneCell') = true)) (O2 : Hid (D2.all (·.oneCell') = true))
    (B1 : Hid (∀ w, Calls Try.prog 27 #[.agg D1, .int .i64 lo] w fun e w' => e = .returned (.bool true) ∧ Ext w w')) (B2 : Hid (∀ w, Calls Try.prog 27 #[.agg D2, .int .i64 hi] w fun e w' => e = .returned (.bool true) ∧ Ext w w'))
    (F1 : Hid (D1[2]? = some (.int .i64 y1) ∧ D1[3]? = some (.int .i64 m1) ∧ D1[4]? = some (.int .i64 d1))) (F2 : Hid (D2[2]? = some (.int .i64 y2) ∧ D2[3]? = some (.int .i64 m2) ∧ D2[4]? = some (.int .i64 d2)))
    (hord : Hid (((lo + 43200000) / 86400000 = (hi + 43200000) / 86400000 ∧ y1 = y2 ∧ m1 = m2 ∧ d1 = d2) ∨ ((lo + 43200000) / 86400000 ≠ (hi + 43200000) / 86400000 ∧ (y1 < y2 ∨ (y1 = y2 ∧ (m1 < m2 ∨ (m1 = m2 ∧ d1 < d2))))))) :
    Calls Try.prog 10 #[.int .i64 jd1, .int .i64 jd2] w fun e w' => e = .returned (.bool true) ∧ Ext w w' := by
  have HL : Hid ((jd1 ≤ jd2 ∧ lo = jd1 ∧ hi = jd2) ∨ (jd2 < jd1 ∧ lo = jd2 ∧ hi = jd1)) := hlh
  have b1 : 0 ≤ lo := by omega
  have b2 : lo ≤ 464269060799999 := by omega
  have b3 : 0 ≤ hi := by omega
  have b4 : hi ≤ 464269060799999 := by omega
  clear hlh
  go_enter Try.func10, Try.ntmps10
  go_upto_if 28 with fail
  go_cut [5, 6] (fun a b wx => a = .int .i64 lo ∧ b = .int .i64 hi ∧ w = wx)
  case first =>
    rcases HL.out with ⟨c, rfl, rfl⟩ | ⟨c, rfl, rfl⟩
    · go_wp2_with fail
      go_meet
      case rel => exact ⟨rfl, rfl, rfl⟩
    · go_wp2_with fail
      go_meet
      case rel => exact ⟨rfl, rfl, rfl⟩
  case rest =>
    obtain ⟨rfl, rfl, rfl⟩ := hcut
    go_upto_region 8 with fail
    go_cut [7] (fun a wx => ∃ b, a = .pointer (some ⟨b, 0, none⟩) ∧ Hid (Ext w wx ∧ b < wx.heap.size ∧ wx.heap[b]? = some (.cells D1 32)))
    case first =>
      go_wp2_with (first | (go_at_call 24; refine (c1.out _).mono ?_; rintro e w' ⟨rfl, hx⟩) | ((with_reducible refine wpList_store_new ?_ 32 (.tmp 7) (.tmp 33) ?_ D1 ?_ ?_ 32 _ S1.out ?_ O1.out ?_); (exact rfl); (exact rfl); (exact rfl); (exact rfl); (exact Z1.out)))
      go_meet
      case rel => exact ⟨_, rfl, hx.trans (ext_alloc _ _ _), by simp, heap_new _ _⟩
    case rest =>
      obtain ⟨p, rfl, hf⟩ := hcut
      go_upto_region 9 with fail
      go_cut [8] (fun a wx => ∃ b, a = .pointer (some ⟨b, 0, none⟩) ∧ Hid (Ext w wx ∧ (p < wx.heap.size ∧ wx.heap[p]? = some (.cells D1 32)) ∧ b < wx.heap.size ∧ wx.heap[b]? = some (.cells D2 32)))
      case first =>
        go_wp2_with (first | (go_at_call 24; refine (c2.out _).mono ?_; rintro e w' ⟨rfl, hx⟩) | ((with_reducible refine wpList_store_new ?_ 32 (.tmp 8) (.tmp 36) ?_ D2 ?_ ?_ 32 _ S2.out ?_ O2.out ?_); (exact rfl); (exact rfl); (exact rfl); (exact rfl); (exact Z2.out)))
        go_meet
        case rel =>
          obtain ⟨f1, f2, f3⟩ := hf.out
          have hx2 := hx.trans (ext_alloc _ D2 32)
          exact ⟨_, rfl, f1.trans hx2, ⟨Nat.lt_of_lt_of_le f2 hx2.size, (hx2.heap p f2).trans f3⟩, by simp, heap_new _ _⟩
      case rest =>
        obtain ⟨q, rfl, hf2⟩ := hcut
        clear hf
        go_upto_region 10 with fail
        go_cut [46] (fun a wx => a = .bool false ∧ Hid (Ext w wx ∧ wx.heap[p]? = some (.cells D1 32) ∧ wx.heap[q]? = some (.cells D2 32)))
        case first =>
          obtain ⟨f1, ⟨f2, f3⟩, f4, f5⟩ := hf2.out
          have F3 : Hid (wc.heap[p]? = some (.cells D1 32)) := f3
          have F5 : Hid (q < wc.heap.size ∧ wc.heap[q]? = some (.cells D2 32)) := ⟨f4, f5⟩
          have FX : Hid (Ext w wc ∧ p < wc.heap.size) := ⟨f1, f2⟩
          clear f1 f2 f3 f4 f5 hf2
          have B12 : Hid (∀ (D : Array Value) (x : Int), (D = D1 ∧ x = lo ∨ D = D2 ∧ x = hi) → ∀ w, Calls Try.prog 27 #[.agg D, .int .i64 x] w fun e w' => e = .returned (.bool true) ∧ Ext w w') := by
            rintro D x (⟨rfl, rfl⟩ | ⟨rfl, rfl⟩)
            · exact B1.out
            · exact B2.out
          go_wp2_with (first | (go_at_call 27; refine (B12.out _ _ ?_ _).mono ?_; (first | exact Or.inl ⟨rfl, rfl⟩ | exact Or.inr ⟨rfl, rfl⟩); rintro e w3 ⟨rfl, hx3⟩; (first | have HX3 : Hid (Ext wc w3) := hx3 | have HX3 : Hid (Ext wc w3) := HX3.out.trans hx3); clear hx3) | (refine wpList_load_row rfl 32 (.tmp 7) rfl p rfl 32 D1 (0, 0) _ F3.out Try.underlying32 rfl S1.out ?_) | ((with_reducible refine wpList_load_guard 32 (.tmp 8) ?_ ?_ q ?_ 32 D2 (0, 0) _ ((HX3.out.heap q F5.out.1).trans F5.out.2) Try.underlying32 ?_ S2.out ?_); (exact rfl); (exact rfl); (exact rfl); (exact rfl)))
          go_meet
          case rel =>
            have x34 := HX3.out
            exact ⟨rfl, FX.out.1.trans x34, (x34.heap p FX.out.2).trans F3.out, (x34.heap q F5.out.1).trans F5.out.2⟩
        case rest =>
          obtain ⟨rfl, hf3⟩ := hcut
          clear hf2
          obtain ⟨g0, g1, g2⟩ := hf3.out
          have GX : Hid (Ext w wc) := g0
          have e1 := cell_heap g1 2 _ F1.out.1
          have e2 := cell_heap g1 3 _ F1.out.2.1
          have e3 := cell_heap g1 4 _ F1.out.2.2
          have e4 := cell_heap g2 2 _ F2.out.1
          have e5 := cell_heap g2 3 _ F2.out.2.1
          have e6 := cell_heap g2 4 _ F2.out.2.2
          clear hf3 g0 g1 g2
          rcases hord.out with ⟨hz, rfl, rfl, rfl⟩ | ⟨hz, hlt⟩
          · have hq : ((lo + 43200000) / 86400000 == (hi + 43200000) / 86400000) = true := by rw [hz]; simp
            clear hz
            go_wp2
            go_ret
            exact ⟨rfl, GX.out⟩
          · have hq : ((lo + 43200000) / 86400000 == (hi + 43200000) / 86400000) = false := by simpa using hz
            clear hz
            rcases hlt with h | ⟨rfl, h | ⟨rfl, h⟩⟩
            · have hne : (y1 != y2) = true := by rw [bne_iff_ne]; omega
              go_wp2
              go_ret
              exact ⟨rfl, GX.out⟩
            · have hne : (m1 != m2) = true := by rw [bne_iff_ne]; omega
              go_wp2
              go_ret
              exact ⟨rfl, GX.out⟩
            · have hne : (d1 != d2) = true := by rw [bne_iff_ne]; omega
              go_wp2
              go_ret
              exact ⟨rfl, GX.out⟩

end Go.Proofs.Qxb6604200a
