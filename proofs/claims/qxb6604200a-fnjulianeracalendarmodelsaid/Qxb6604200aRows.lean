/-
  No cell of these rows narrows 'for every input' (looked for: loops, veiled, ifaces, maps, wideKeys, modest, calm, conditions, laid).
  DERIVED. THE GIVEN ROWS OF THIS SEAT. 8 by the template 'for every input the law returns true; each argument reads behind the call as it read before'; 0 by the template 'total and deterministic' (their statements: Qxb6604200aTotals.lean).
  GIVEN WITH THE SEED: the statements are not yours to turn. If you find one false, say at which input.
  Laid BY PROGRAM, IN A SANDBOX (cutbox-rows.mjs): the forced cells as the released guide's own fill.sh prints them over the translation ad0805318067f631… (all of the seat's roots in one cut). By AI agents, Wed Nov 11 2026. No macro, syntax, notation, axiom, sorry.
-/
import Derived.Test.Qxb6604200aChecked
import GoSem.Claim
import GoSem.ClaimJoined
import GoSem.ClaimMapViews
import Derived.JoinedTies
import Derived.KernelRfl
namespace Go.Proofs.Qxb6604200a
/- THE CELL 'sum', in the pinned program and in every row, IS THE sha256 OF THE DUMP (.gsa) THAT Qxb6604200aProg.lean LOADS. Nothing in Lean hashes anything: it is a label: what it is worth is what the hold of that sum in a sandbox is worth. -/
noncomputable def Try.pinned : Pinned := { name := "qxb6604200a", sum := "ad0805318067f6310193ef61dd7c7894fa7260db050d9a8a099ba6c8c940e8dd", checked := Try.checked }
namespace Rows
def none {H : Type} : Left H := { results := [], args := [] }

/-- 'zzlaws_root_b1.FnLikeCharLeadAndRunModel': WHATEVER THE INPUT: true; the input reads as it did. -/
def fnLikeCharLeadAndRunModelSpec : ChangeSpec := { name := "fnLikeCharLeadAndRunModel", fn := fun _ => fun
  | [d] => { results := [.lit (.bool true)], args := [d] }
  | _ => none }
def fnLikeCharLeadAndRunModelRow : OpenClaim := { program := "qxb6604200a", sum := "ad0805318067f6310193ef61dd7c7894fa7260db050d9a8a099ba6c8c940e8dd", func := "example.com/vetter/vetter/zzlaws_root_b1.FnLikeCharLeadAndRunModel", spec := "fnLikeCharLeadAndRunModel", apart := false }
def FnLikeCharLeadAndRunModelSaid : Prop := fnLikeCharLeadAndRunModelRow.holds Try.pinned (OpenSpec.ofChange fnLikeCharLeadAndRunModelSpec)

/-- ITS FALSE NEIGHBOUR: 'it returns false'. Refute it at one input. -/
def fnLikeCharLeadAndRunModelWrong : ChangeSpec := { name := "fnLikeCharLeadAndRunModel", fn := fun _ => fun
  | [d] => { results := [.lit (.bool false)], args := [d] }
  | _ => none }
def FnLikeCharLeadAndRunModelWrongFalsely : Prop := fnLikeCharLeadAndRunModelRow.holds Try.pinned (OpenSpec.ofChange fnLikeCharLeadAndRunModelWrong)

/-- 'zzlaws_root_b1.FnLikeCharAgreesWithUTF8OnValidText': WHATEVER THE INPUT: true; the input reads as it did. -/
def fnLikeCharAgreesWithUTF8OnValidTextSpec : ChangeSpec := { name := "fnLikeCharAgreesWithUTF8OnValidText", fn := fun _ => fun
  | [d] => { results := [.lit (.bool true)], args := [d] }
  | _ => none }
def fnLikeCharAgreesWithUTF8OnValidTextRow : OpenClaim := { program := "qxb6604200a", sum := "ad0805318067f6310193ef61dd7c7894fa7260db050d9a8a099ba6c8c940e8dd", func := "example.com/vetter/vetter/zzlaws_root_b1.FnLikeCharAgreesWithUTF8OnValidText", spec := "fnLikeCharAgreesWithUTF8OnValidText", apart := false }
def FnLikeCharAgreesWithUTF8OnValidTextSaid : Prop := fnLikeCharAgreesWithUTF8OnValidTextRow.holds Try.pinned (OpenSpec.ofChange fnLikeCharAgreesWithUTF8OnValidTextSpec)

/-- ITS FALSE NEIGHBOUR: 'it returns false'. Refute it at one input. -/
def fnLikeCharAgreesWithUTF8OnValidTextWrong : ChangeSpec := { name := "fnLikeCharAgreesWithUTF8OnValidText", fn := fun _ => fun
  | [d] => { results := [.lit (.bool false)], args := [d] }
  | _ => none }
def FnLikeCharAgreesWithUTF8OnValidTextWrongFalsely : Prop := fnLikeCharAgreesWithUTF8OnValidTextRow.holds Try.pinned (OpenSpec.ofChange fnLikeCharAgreesWithUTF8OnValidTextWrong)

/-- 'zzlaws_root_b1.FnLikeCharStepsTileText': WHATEVER THE INPUT: true; the input reads as it did. -/
def fnLikeCharStepsTileTextSpec : ChangeSpec := { name := "fnLikeCharStepsTileText", fn := fun _ => fun
  | [d] => { results := [.lit (.bool true)], args := [d] }
  | _ => none }
def fnLikeCharStepsTileTextRow : OpenClaim := { program := "qxb6604200a", sum := "ad0805318067f6310193ef61dd7c7894fa7260db050d9a8a099ba6c8c940e8dd", func := "example.com/vetter/vetter/zzlaws_root_b1.FnLikeCharStepsTileText", spec := "fnLikeCharStepsTileText", apart := false }
def FnLikeCharStepsTileTextSaid : Prop := fnLikeCharStepsTileTextRow.holds Try.pinned (OpenSpec.ofChange fnLikeCharStepsTileTextSpec)

/-- ITS FALSE NEIGHBOUR: 'it returns false'. Refute it at one input. -/
def fnLikeCharStepsTileTextWrong : ChangeSpec := { name := "fnLikeCharStepsTileText", fn := fun _ => fun
  | [d] => { results := [.lit (.bool false)], args := [d] }
  | _ => none }
def FnLikeCharStepsTileTextWrongFalsely : Prop := fnLikeCharStepsTileTextRow.holds Try.pinned (OpenSpec.ofChange fnLikeCharStepsTileTextWrong)

/-- 'zzlaws_root_b1.FnJulianEraCalendarModel': WHATEVER THE INPUT: true; the input reads as it did. -/
def fnJulianEraCalendarModelSpec : ChangeSpec := { name := "fnJulianEraCalendarModel", fn := fun _ => fun
  | [d] => { results := [.lit (.bool true)], args := [d] }
  | _ => none }
def fnJulianEraCalendarModelRow : OpenClaim := { program := "qxb6604200a", sum := "ad0805318067f6310193ef61dd7c7894fa7260db050d9a8a099ba6c8c940e8dd", func := "example.com/vetter/vetter/zzlaws_root_b1.FnJulianEraCalendarModel", spec := "fnJulianEraCalendarModel", apart := false }
def FnJulianEraCalendarModelSaid : Prop := fnJulianEraCalendarModelRow.holds Try.pinned (OpenSpec.ofChange fnJulianEraCalendarModelSpec)

/-- ITS FALSE NEIGHBOUR: 'it returns false'. Refute it at one input. -/
def fnJulianEraCalendarModelWrong : ChangeSpec := { name := "fnJulianEraCalendarModel", fn := fun _ => fun
  | [d] => { results := [.lit (.bool false)], args := [d] }
  | _ => none }
def FnJulianEraCalendarModelWrongFalsely : Prop := fnJulianEraCalendarModelRow.holds Try.pinned (OpenSpec.ofChange fnJulianEraCalendarModelWrong)

/-- 'zzlaws_root_b1.FnCivilUndoesJulianOnRealDates': WHATEVER THE INPUT: true; the input reads as it did. -/
def fnCivilUndoesJulianOnRealDatesSpec : ChangeSpec := { name := "fnCivilUndoesJulianOnRealDates", fn := fun _ => fun
  | [d1, d2, d3] => { results := [.lit (.bool true)], args := [d1, d2, d3] }
  | _ => none }
def fnCivilUndoesJulianOnRealDatesRow : OpenClaim := { program := "qxb6604200a", sum := "ad0805318067f6310193ef61dd7c7894fa7260db050d9a8a099ba6c8c940e8dd", func := "example.com/vetter/vetter/zzlaws_root_b1.FnCivilUndoesJulianOnRealDates", spec := "fnCivilUndoesJulianOnRealDates", apart := false }
def FnCivilUndoesJulianOnRealDatesSaid : Prop := fnCivilUndoesJulianOnRealDatesRow.holds Try.pinned (OpenSpec.ofChange fnCivilUndoesJulianOnRealDatesSpec)

/-- ITS FALSE NEIGHBOUR: 'it returns false'. Refute it at one input. -/
def fnCivilUndoesJulianOnRealDatesWrong : ChangeSpec := { name := "fnCivilUndoesJulianOnRealDates", fn := fun _ => fun
  | [d1, d2, d3] => { results := [.lit (.bool false)], args := [d1, d2, d3] }
  | _ => none }
def FnCivilUndoesJulianOnRealDatesWrongFalsely : Prop := fnCivilUndoesJulianOnRealDatesRow.holds Try.pinned (OpenSpec.ofChange fnCivilUndoesJulianOnRealDatesWrong)

/-- 'zzlaws_root_b1.FnCivilEraCalendarModel': WHATEVER THE INPUT: true; the input reads as it did. -/
def fnCivilEraCalendarModelSpec : ChangeSpec := { name := "fnCivilEraCalendarModel", fn := fun _ => fun
  | [d] => { results := [.lit (.bool true)], args := [d] }
  | _ => none }
def fnCivilEraCalendarModelRow : OpenClaim := { program := "qxb6604200a", sum := "ad0805318067f6310193ef61dd7c7894fa7260db050d9a8a099ba6c8c940e8dd", func := "example.com/vetter/vetter/zzlaws_root_b1.FnCivilEraCalendarModel", spec := "fnCivilEraCalendarModel", apart := false }
def FnCivilEraCalendarModelSaid : Prop := fnCivilEraCalendarModelRow.holds Try.pinned (OpenSpec.ofChange fnCivilEraCalendarModelSpec)

/-- ITS FALSE NEIGHBOUR: 'it returns false'. Refute it at one input. -/
def fnCivilEraCalendarModelWrong : ChangeSpec := { name := "fnCivilEraCalendarModel", fn := fun _ => fun
  | [d] => { results := [.lit (.bool false)], args := [d] }
  | _ => none }
def FnCivilEraCalendarModelWrongFalsely : Prop := fnCivilEraCalendarModelRow.holds Try.pinned (OpenSpec.ofChange fnCivilEraCalendarModelWrong)

/-- 'zzlaws_root_b1.FnJulianOfCivilIsMidnight': WHATEVER THE INPUT: true; the input reads as it did. -/
def fnJulianOfCivilIsMidnightSpec : ChangeSpec := { name := "fnJulianOfCivilIsMidnight", fn := fun _ => fun
  | [d] => { results := [.lit (.bool true)], args := [d] }
  | _ => none }
def fnJulianOfCivilIsMidnightRow : OpenClaim := { program := "qxb6604200a", sum := "ad0805318067f6310193ef61dd7c7894fa7260db050d9a8a099ba6c8c940e8dd", func := "example.com/vetter/vetter/zzlaws_root_b1.FnJulianOfCivilIsMidnight", spec := "fnJulianOfCivilIsMidnight", apart := false }
def FnJulianOfCivilIsMidnightSaid : Prop := fnJulianOfCivilIsMidnightRow.holds Try.pinned (OpenSpec.ofChange fnJulianOfCivilIsMidnightSpec)

/-- ITS FALSE NEIGHBOUR: 'it returns false'. Refute it at one input. -/
def fnJulianOfCivilIsMidnightWrong : ChangeSpec := { name := "fnJulianOfCivilIsMidnight", fn := fun _ => fun
  | [d] => { results := [.lit (.bool false)], args := [d] }
  | _ => none }
def FnJulianOfCivilIsMidnightWrongFalsely : Prop := fnJulianOfCivilIsMidnightRow.holds Try.pinned (OpenSpec.ofChange fnJulianOfCivilIsMidnightWrong)

/-- 'zzlaws_root_b1.FnCivilOrderedAndBounded': WHATEVER THE INPUT: true; the input reads as it did. -/
def fnCivilOrderedAndBoundedSpec : ChangeSpec := { name := "fnCivilOrderedAndBounded", fn := fun _ => fun
  | [d1, d2] => { results := [.lit (.bool true)], args := [d1, d2] }
  | _ => none }
def fnCivilOrderedAndBoundedRow : OpenClaim := { program := "qxb6604200a", sum := "ad0805318067f6310193ef61dd7c7894fa7260db050d9a8a099ba6c8c940e8dd", func := "example.com/vetter/vetter/zzlaws_root_b1.FnCivilOrderedAndBounded", spec := "fnCivilOrderedAndBounded", apart := false }
def FnCivilOrderedAndBoundedSaid : Prop := fnCivilOrderedAndBoundedRow.holds Try.pinned (OpenSpec.ofChange fnCivilOrderedAndBoundedSpec)

/-- ITS FALSE NEIGHBOUR: 'it returns false'. Refute it at one input. -/
def fnCivilOrderedAndBoundedWrong : ChangeSpec := { name := "fnCivilOrderedAndBounded", fn := fun _ => fun
  | [d1, d2] => { results := [.lit (.bool false)], args := [d1, d2] }
  | _ => none }
def FnCivilOrderedAndBoundedWrongFalsely : Prop := fnCivilOrderedAndBoundedRow.holds Try.pinned (OpenSpec.ofChange fnCivilOrderedAndBoundedWrong)

end Rows
end Go.Proofs.Qxb6604200a
