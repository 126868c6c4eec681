/-
  A moment that comes in by value: its cells, and how it reads behind the call.
-/
import Derived.Test.Qxb6604200aCivilCall
import Derived.ProofKit
import Derived.OpenShut
import Derived.ShutString
import Derived.Carry
import Derived.Deep.Fields
import Derived.Lib.SmallJoins
namespace Go.Proofs.Qxb6604200a
open Go.ChangeShapes Go.WideShapes Go.ChangeAt Go.RowKit Go.Deep

theorem array18 {α : Type} {cs : Array α} (h : cs.size = 18) : ∃ c0 c1 c2 c3 c4 c5 c6 c7 c8 c9 c10 c11 c12 c13 c14 c15 c16 c17, cs = #[c0, c1, c2, c3, c4, c5, c6, c7, c8, c9, c10, c11, c12, c13, c14, c15, c16, c17] := by
  obtain ⟨l⟩ := cs
  match l, h with
  | [c0, c1, c2, c3, c4, c5, c6, c7, c8, c9, c10, c11, c12, c13, c14, c15, c16, c17], _ => exact ⟨c0, c1, c2, c3, c4, c5, c6, c7, c8, c9, c10, c11, c12, c13, c14, c15, c16, c17, rfl⟩

theorem take_one {l : List Value} {i : Nat} {c : Value} (h : l[i]? = some c) : (l.drop i).take 1 = [c] := by
  obtain ⟨hi, rfl⟩ := List.getElem?_eq_some_iff.1 h
  rw [List.drop_eq_getElem_cons hi]; rfl

section
variable {H : Type} {enc : TypeId × Value → H} {w : World} {base : Nat} {spare : Nat → Bool} {held : Bool}

theorem fld_at {P : Program} {fs : Array Field} {cs : List Value} {xs : List (DataW H × List MemPlace)} {n : Nat} (hone : oneCellFields P fs = true)
    (hf : ∀ (i : Nat) (f : Field), fs[i]? = some f → DataW.trod enc P w base spare held n f.type ((cs.drop f.offset).take (P.cellsOf f.type)) = xs[i]?)
    (i : Nat) (f : Field) (c : Value) (hi : fs[i]? = some f) (hc : cs[i]? = some c) (hl : i < xs.length) : DataW.trod enc P w base spare held n f.type [c] = some xs[i] := by
  obtain ⟨o, k⟩ := hone_of hone i f hi
  have := hf i f hi
  rw [o, k, take_one hc, List.getElem?_eq_getElem hl] at this
  exact this

theorem trod_float {P : Program} {t : TypeId} {k : FloatKind} {fuel : Nat} {c : Value} {x : DataW H × List MemPlace} (ht : P.underlying t = some (.float k)) (h : DataW.trod enc P w base spare held fuel t [c] = some x) :
    ∃ b, c = .float k b ∧ x = (.lit (.float k b), []) ∧ (Lit.float k b).wf = true := by
  cases fuel with
  | zero => simp [DataW.trod] at h
  | succ n =>
    unfold DataW.trod at h
    rw [ht] at h
    split at h <;> simp_all

theorem cells30 : Try.prog.cellsOf 30 = 18 := by kernel_rfl

set_option maxHeartbeats 1000000 in
/-- OPENED -/
theorem moment_open {r : Reach} {b0 : Nat} {v : Value} {d : DataW H} {p : List MemPlace} (hv : Value.okWide Try.prog w r b0 30 v) (h : DataW.Trod enc Try.prog w base spare held 30 v d p) :
    ∃ (jd : Int) (hasJD : Bool) (year month day : Int) (hasDate : Bool) (hour minute : Int) (second : Nat) (hasClock : Bool) (number : Nat) (isNumber : Bool) (zone : Int) (utc loc subsec : Bool) (overflow : Int) (failed : Bool),
      v = .agg (row jd hasJD year month day hasDate hour minute second hasClock number isNumber zone utc loc subsec overflow failed) ∧ p = [] ∧
      (Lit.int .i64 jd).wf = true ∧ (Lit.int .i64 year).wf = true ∧ (Lit.int .i64 month).wf = true ∧ (Lit.int .i64 day).wf = true ∧ (Lit.int .i64 hour).wf = true ∧ (Lit.int .i64 minute).wf = true ∧ (Lit.float .f64 second).wf = true ∧ (Lit.float .f64 number).wf = true ∧ (Lit.int .i64 zone).wf = true ∧ (Lit.int .i64 overflow).wf = true := by
  obtain ⟨cs, rfl, hsz⟩ := okWide_struct Try.underlying30 hv
  obtain ⟨c0, c1, c2, c3, c4, c5, c6, c7, c8, c9, c10, c11, c12, c13, c14, c15, c16, c17, rfl⟩ := array18 (hsz.trans cells30)
  obtain ⟨fuel, hf⟩ := h
  obtain ⟨xs, n, _, hx, _, hlen, hfs⟩ := DataW.trod_struct Try.underlying30 hf
  have hone : oneCellFields Try.prog _ = true := (by kernel_rfl : oneCellFields Try.prog #[{ name := "JD", type := 2, offset := 0, embedded := false, tag := "", pkgPath := "", byteOffset := 0 }, { name := "HasJD", type := 4, offset := 1, embedded := false, tag := "", pkgPath := "", byteOffset := 8 }, { name := "Year", type := 3, offset := 2, embedded := false, tag := "", pkgPath := "", byteOffset := 16 }, { name := "Month", type := 3, offset := 3, embedded := false, tag := "", pkgPath := "", byteOffset := 24 }, { name := "Day", type := 3, offset := 4, embedded := false, tag := "", pkgPath := "", byteOffset := 32 }, { name := "HasDate", type := 4, offset := 5, embedded := false, tag := "", pkgPath := "", byteOffset := 40 }, { name := "Hour", type := 3, offset := 6, embedded := false, tag := "", pkgPath := "", byteOffset := 48 }, { name := "Minute", type := 3, offset := 7, embedded := false, tag := "", pkgPath := "", byteOffset := 56 }, { name := "Second", type := 28, offset := 8, embedded := false, tag := "", pkgPath := "", byteOffset := 64 }, { name := "HasClock", type := 4, offset := 9, embedded := false, tag := "", pkgPath := "", byteOffset := 72 }, { name := "Number", type := 28, offset := 10, embedded := false, tag := "", pkgPath := "", byteOffset := 80 }, { name := "IsNumber", type := 4, offset := 11, embedded := false, tag := "", pkgPath := "", byteOffset := 88 }, { name := "Zone", type := 3, offset := 12, embedded := false, tag := "", pkgPath := "", byteOffset := 96 }, { name := "UTC", type := 4, offset := 13, embedded := false, tag := "", pkgPath := "", byteOffset := 104 }, { name := "Local", type := 4, offset := 14, embedded := false, tag := "", pkgPath := "", byteOffset := 105 }, { name := "Subsec", type := 4, offset := 15, embedded := false, tag := "", pkgPath := "", byteOffset := 106 }, { name := "Overflow", type := 3, offset := 16, embedded := false, tag := "", pkgPath := "", byteOffset := 112 }, { name := "Failed", type := 4, offset := 17, embedded := false, tag := "", pkgPath := "", byteOffset := 120 }] = true)
  have hl : xs.length = 18 := hlen
  clear hf hlen hv hsz
  have h0 := fld_at hone hfs 0 _ c0 rfl rfl (by omega)
  obtain ⟨jd, e0, x0, w0⟩ := DataW.trod_int Try.underlying2 h0
  obtain rfl : c0 = .int .i64 jd := by simpa using e0
  clear h0 e0
  have h1 := fld_at hone hfs 1 _ c1 rfl rfl (by omega)
  obtain ⟨hasJD, e1, x1⟩ := DataW.trod_bool Try.underlying4 h1
  obtain rfl : c1 = .bool hasJD := by simpa using e1
  clear h1 e1
  have h2 := fld_at hone hfs 2 _ c2 rfl rfl (by omega)
  obtain ⟨year, e2, x2, w2⟩ := DataW.trod_int Try.underlying3 h2
  obtain rfl : c2 = .int .i64 year := by simpa using e2
  clear h2 e2
  have h3 := fld_at hone hfs 3 _ c3 rfl rfl (by omega)
  obtain ⟨month, e3, x3, w3⟩ := DataW.trod_int Try.underlying3 h3
  obtain rfl : c3 = .int .i64 month := by simpa using e3
  clear h3 e3
  have h4 := fld_at hone hfs 4 _ c4 rfl rfl (by omega)
  obtain ⟨day, e4, x4, w4⟩ := DataW.trod_int Try.underlying3 h4
  obtain rfl : c4 = .int .i64 day := by simpa using e4
  clear h4 e4
  have h5 := fld_at hone hfs 5 _ c5 rfl rfl (by omega)
  obtain ⟨hasDate, e5, x5⟩ := DataW.trod_bool Try.underlying4 h5
  obtain rfl : c5 = .bool hasDate := by simpa using e5
  clear h5 e5
  have h6 := fld_at hone hfs 6 _ c6 rfl rfl (by omega)
  obtain ⟨hour, e6, x6, w6⟩ := DataW.trod_int Try.underlying3 h6
  obtain rfl : c6 = .int .i64 hour := by simpa using e6
  clear h6 e6
  have h7 := fld_at hone hfs 7 _ c7 rfl rfl (by omega)
  obtain ⟨minute, e7, x7, w7⟩ := DataW.trod_int Try.underlying3 h7
  obtain rfl : c7 = .int .i64 minute := by simpa using e7
  clear h7 e7
  have h8 := fld_at hone hfs 8 _ c8 rfl rfl (by omega)
  obtain ⟨second, rfl, x8, w8⟩ := trod_float Try.underlying28 h8
  clear h8
  have h9 := fld_at hone hfs 9 _ c9 rfl rfl (by omega)
  obtain ⟨hasClock, e9, x9⟩ := DataW.trod_bool Try.underlying4 h9
  obtain rfl : c9 = .bool hasClock := by simpa using e9
  clear h9 e9
  have h10 := fld_at hone hfs 10 _ c10 rfl rfl (by omega)
  obtain ⟨number, rfl, x10, w10⟩ := trod_float Try.underlying28 h10
  clear h10
  have h11 := fld_at hone hfs 11 _ c11 rfl rfl (by omega)
  obtain ⟨isNumber, e11, x11⟩ := DataW.trod_bool Try.underlying4 h11
  obtain rfl : c11 = .bool isNumber := by simpa using e11
  clear h11 e11
  have h12 := fld_at hone hfs 12 _ c12 rfl rfl (by omega)
  obtain ⟨zone, e12, x12, w12⟩ := DataW.trod_int Try.underlying3 h12
  obtain rfl : c12 = .int .i64 zone := by simpa using e12
  clear h12 e12
  have h13 := fld_at hone hfs 13 _ c13 rfl rfl (by omega)
  obtain ⟨utc, e13, x13⟩ := DataW.trod_bool Try.underlying4 h13
  obtain rfl : c13 = .bool utc := by simpa using e13
  clear h13 e13
  have h14 := fld_at hone hfs 14 _ c14 rfl rfl (by omega)
  obtain ⟨loc, e14, x14⟩ := DataW.trod_bool Try.underlying4 h14
  obtain rfl : c14 = .bool loc := by simpa using e14
  clear h14 e14
  have h15 := fld_at hone hfs 15 _ c15 rfl rfl (by omega)
  obtain ⟨subsec, e15, x15⟩ := DataW.trod_bool Try.underlying4 h15
  obtain rfl : c15 = .bool subsec := by simpa using e15
  clear h15 e15
  have h16 := fld_at hone hfs 16 _ c16 rfl rfl (by omega)
  obtain ⟨overflow, e16, x16, w16⟩ := DataW.trod_int Try.underlying3 h16
  obtain rfl : c16 = .int .i64 overflow := by simpa using e16
  clear h16 e16
  have h17 := fld_at hone hfs 17 _ c17 rfl rfl (by omega)
  obtain ⟨failed, e17, x17⟩ := DataW.trod_bool Try.underlying4 h17
  obtain rfl : c17 = .bool failed := by simpa using e17
  clear h17 e17
  refine ⟨jd, hasJD, year, month, day, hasDate, hour, minute, second, hasClock, number, isNumber, zone, utc, loc, subsec, overflow, failed, rfl, ?_, w0, w2, w3, w4, w6, w7, w8, w10, w12, w16⟩
  have hp : p = xs.flatMap (·.2) := congrArg Prod.snd hx
  rw [hp, List.flatMap_eq_nil_iff]
  intro x hxm
  obtain ⟨i, hi, rfl⟩ := List.getElem_of_mem hxm
  have hi18 : i < 18 := by omega
  have hc : i = 0 ∨ i = 1 ∨ i = 2 ∨ i = 3 ∨ i = 4 ∨ i = 5 ∨ i = 6 ∨ i = 7 ∨ i = 8 ∨ i = 9 ∨ i = 10 ∨ i = 11 ∨ i = 12 ∨ i = 13 ∨ i = 14 ∨ i = 15 ∨ i = 16 ∨ i = 17 := by omega
  rcases hc with rfl | rfl | rfl | rfl | rfl | rfl | rfl | rfl | rfl | rfl | rfl | rfl | rfl | rfl | rfl | rfl | rfl | rfl
  · rw [x0]
  · rw [x1]
  · rw [x2]
  · rw [x3]
  · rw [x4]
  · rw [x5]
  · rw [x6]
  · rw [x7]
  · rw [x8]
  · rw [x9]
  · rw [x10]
  · rw [x11]
  · rw [x12]
  · rw [x13]
  · rw [x14]
  · rw [x15]
  · rw [x16]
  · rw [x17]

/-- SHUT: it reads behind the call as it did -/
theorem moment_shut {W W' : World} {sp' : Nat → Bool} {v : Value} {d : DataW H} (h : DataW.Trod enc Try.prog W 0 (fun _ => true) true 30 v d []) : DataW.Trod enc Try.prog W' 0 sp' true 30 v d [] :=
  WideElems.Trod_stays (by kernel_rfl) (by kernel_rfl) (of_decide_eq_true (by kernel_rfl)) h (fun p hp => by cases hp) (fun p hp => by cases hp)
end

end Go.Proofs.Qxb6604200a
