/-
  No cell of these rows narrows 'for every input' (looked for: loops, veiled, ifaces, maps, wideKeys, modest, calm, conditions, laid).
  DERIVED. THE GIVEN ROWS OF THIS SEAT. 9 by the template 'for every input the law returns true; each argument reads behind the call as it read before'; 0 by the template 'total and deterministic' (their statements: Qxb6602703aTotals.lean).
  GIVEN WITH THE SEED: the statements are not yours to turn. If you find one false, say at which input.
  Laid BY PROGRAM, IN A SANDBOX (cutbox-rows.mjs): the forced cells as the released guide's own fill.sh prints them over the translation 681e5982fc290070… (all of the seat's roots in one cut). By AI agents, Wed Nov 11 2026. No macro, syntax, notation, axiom, sorry.
-/
import Derived.Test.Qxb6602703aChecked
import GoSem.Claim
import GoSem.ClaimJoined
import GoSem.ClaimMapViews
import Derived.JoinedTies
import Derived.KernelRfl
namespace Go.Proofs.Qxb6602703a
/- THE CELL 'sum', in the pinned program and in every row, IS THE sha256 OF THE DUMP (.gsa) THAT Qxb6602703aProg.lean LOADS. Nothing in Lean hashes anything: it is a label: what it is worth is what the hold of that sum in a sandbox is worth. -/
noncomputable def Try.pinned : Pinned := { name := "qxb6602703a", sum := "681e5982fc290070edff64f491e8e03cdb58984a585028021608c9086d9251e2", checked := Try.checked }
namespace Rows
def none {H : Type} : Left H := { results := [], args := [] }

/-- 'zzlaws_usagelog_b1.FnNumberMatchesPositionalSum': WHATEVER THE INPUT: true; the input reads as it did. -/
def fnNumberMatchesPositionalSumSpec : ChangeSpec := { name := "fnNumberMatchesPositionalSum", fn := fun _ => fun
  | [d] => { results := [.lit (.bool true)], args := [d] }
  | _ => none }
def fnNumberMatchesPositionalSumRow : OpenClaim := { program := "qxb6602703a", sum := "681e5982fc290070edff64f491e8e03cdb58984a585028021608c9086d9251e2", func := "example.com/idunn/idunn/zzlaws_usagelog_b1.FnNumberMatchesPositionalSum", spec := "fnNumberMatchesPositionalSum", apart := false }
def FnNumberMatchesPositionalSumSaid : Prop := fnNumberMatchesPositionalSumRow.holds Try.pinned (OpenSpec.ofChange fnNumberMatchesPositionalSumSpec)

/-- ITS FALSE NEIGHBOUR: 'it returns false'. Refute it at one input. -/
def fnNumberMatchesPositionalSumWrong : ChangeSpec := { name := "fnNumberMatchesPositionalSum", fn := fun _ => fun
  | [d] => { results := [.lit (.bool false)], args := [d] }
  | _ => none }
def FnNumberMatchesPositionalSumWrongFalsely : Prop := fnNumberMatchesPositionalSumRow.holds Try.pinned (OpenSpec.ofChange fnNumberMatchesPositionalSumWrong)

/-- 'zzlaws_usagelog_b1.FnNumberReadsDecimalText': WHATEVER THE INPUT: true; the input reads as it did. -/
def fnNumberReadsDecimalTextSpec : ChangeSpec := { name := "fnNumberReadsDecimalText", fn := fun _ => fun
  | [d] => { results := [.lit (.bool true)], args := [d] }
  | _ => none }
def fnNumberReadsDecimalTextRow : OpenClaim := { program := "qxb6602703a", sum := "681e5982fc290070edff64f491e8e03cdb58984a585028021608c9086d9251e2", func := "example.com/idunn/idunn/zzlaws_usagelog_b1.FnNumberReadsDecimalText", spec := "fnNumberReadsDecimalText", apart := false }
def FnNumberReadsDecimalTextSaid : Prop := fnNumberReadsDecimalTextRow.holds Try.pinned (OpenSpec.ofChange fnNumberReadsDecimalTextSpec)

/-- ITS FALSE NEIGHBOUR: 'it returns false'. Refute it at one input. -/
def fnNumberReadsDecimalTextWrong : ChangeSpec := { name := "fnNumberReadsDecimalText", fn := fun _ => fun
  | [d] => { results := [.lit (.bool false)], args := [d] }
  | _ => none }
def FnNumberReadsDecimalTextWrongFalsely : Prop := fnNumberReadsDecimalTextRow.holds Try.pinned (OpenSpec.ofChange fnNumberReadsDecimalTextWrong)

/-- 'zzlaws_usagelog_b1.FnNumberIgnoresLeadingZeros': WHATEVER THE INPUT: true; the input reads as it did. -/
def fnNumberIgnoresLeadingZerosSpec : ChangeSpec := { name := "fnNumberIgnoresLeadingZeros", fn := fun _ => fun
  | [d1, d2] => { results := [.lit (.bool true)], args := [d1, d2] }
  | _ => none }
def fnNumberIgnoresLeadingZerosRow : OpenClaim := { program := "qxb6602703a", sum := "681e5982fc290070edff64f491e8e03cdb58984a585028021608c9086d9251e2", func := "example.com/idunn/idunn/zzlaws_usagelog_b1.FnNumberIgnoresLeadingZeros", spec := "fnNumberIgnoresLeadingZeros", apart := false }
def FnNumberIgnoresLeadingZerosSaid : Prop := fnNumberIgnoresLeadingZerosRow.holds Try.pinned (OpenSpec.ofChange fnNumberIgnoresLeadingZerosSpec)

/-- ITS FALSE NEIGHBOUR: 'it returns false'. Refute it at one input. -/
def fnNumberIgnoresLeadingZerosWrong : ChangeSpec := { name := "fnNumberIgnoresLeadingZeros", fn := fun _ => fun
  | [d1, d2] => { results := [.lit (.bool false)], args := [d1, d2] }
  | _ => none }
def FnNumberIgnoresLeadingZerosWrongFalsely : Prop := fnNumberIgnoresLeadingZerosRow.holds Try.pinned (OpenSpec.ofChange fnNumberIgnoresLeadingZerosWrong)

/-- 'zzlaws_usagelog_b1.FnDaysInMatchesCalendarTable': WHATEVER THE INPUT: true; the input reads as it did. -/
def fnDaysInMatchesCalendarTableSpec : ChangeSpec := { name := "fnDaysInMatchesCalendarTable", fn := fun _ => fun
  | [d1, d2] => { results := [.lit (.bool true)], args := [d1, d2] }
  | _ => none }
def fnDaysInMatchesCalendarTableRow : OpenClaim := { program := "qxb6602703a", sum := "681e5982fc290070edff64f491e8e03cdb58984a585028021608c9086d9251e2", func := "example.com/idunn/idunn/zzlaws_usagelog_b1.FnDaysInMatchesCalendarTable", spec := "fnDaysInMatchesCalendarTable", apart := false }
def FnDaysInMatchesCalendarTableSaid : Prop := fnDaysInMatchesCalendarTableRow.holds Try.pinned (OpenSpec.ofChange fnDaysInMatchesCalendarTableSpec)

/-- ITS FALSE NEIGHBOUR: 'it returns false'. Refute it at one input. -/
def fnDaysInMatchesCalendarTableWrong : ChangeSpec := { name := "fnDaysInMatchesCalendarTable", fn := fun _ => fun
  | [d1, d2] => { results := [.lit (.bool false)], args := [d1, d2] }
  | _ => none }
def FnDaysInMatchesCalendarTableWrongFalsely : Prop := fnDaysInMatchesCalendarTableRow.holds Try.pinned (OpenSpec.ofChange fnDaysInMatchesCalendarTableWrong)

/-- 'zzlaws_usagelog_b1.FnDaysInIsGapBetweenFirsts': WHATEVER THE INPUT: true; the input reads as it did. -/
def fnDaysInIsGapBetweenFirstsSpec : ChangeSpec := { name := "fnDaysInIsGapBetweenFirsts", fn := fun _ => fun
  | [d1, d2] => { results := [.lit (.bool true)], args := [d1, d2] }
  | _ => none }
def fnDaysInIsGapBetweenFirstsRow : OpenClaim := { program := "qxb6602703a", sum := "681e5982fc290070edff64f491e8e03cdb58984a585028021608c9086d9251e2", func := "example.com/idunn/idunn/zzlaws_usagelog_b1.FnDaysInIsGapBetweenFirsts", spec := "fnDaysInIsGapBetweenFirsts", apart := false }
def FnDaysInIsGapBetweenFirstsSaid : Prop := fnDaysInIsGapBetweenFirstsRow.holds Try.pinned (OpenSpec.ofChange fnDaysInIsGapBetweenFirstsSpec)

/-- ITS FALSE NEIGHBOUR: 'it returns false'. Refute it at one input. -/
def fnDaysInIsGapBetweenFirstsWrong : ChangeSpec := { name := "fnDaysInIsGapBetweenFirsts", fn := fun _ => fun
  | [d1, d2] => { results := [.lit (.bool false)], args := [d1, d2] }
  | _ => none }
def FnDaysInIsGapBetweenFirstsWrongFalsely : Prop := fnDaysInIsGapBetweenFirstsRow.holds Try.pinned (OpenSpec.ofChange fnDaysInIsGapBetweenFirstsWrong)

/-- 'zzlaws_usagelog_b1.FnDaysInFourHundredYearCycle': WHATEVER THE INPUT: true; the input reads as it did. -/
def fnDaysInFourHundredYearCycleSpec : ChangeSpec := { name := "fnDaysInFourHundredYearCycle", fn := fun _ => fun
  | [d] => { results := [.lit (.bool true)], args := [d] }
  | _ => none }
def fnDaysInFourHundredYearCycleRow : OpenClaim := { program := "qxb6602703a", sum := "681e5982fc290070edff64f491e8e03cdb58984a585028021608c9086d9251e2", func := "example.com/idunn/idunn/zzlaws_usagelog_b1.FnDaysInFourHundredYearCycle", spec := "fnDaysInFourHundredYearCycle", apart := false }
def FnDaysInFourHundredYearCycleSaid : Prop := fnDaysInFourHundredYearCycleRow.holds Try.pinned (OpenSpec.ofChange fnDaysInFourHundredYearCycleSpec)

/-- ITS FALSE NEIGHBOUR: 'it returns false'. Refute it at one input. -/
def fnDaysInFourHundredYearCycleWrong : ChangeSpec := { name := "fnDaysInFourHundredYearCycle", fn := fun _ => fun
  | [d] => { results := [.lit (.bool false)], args := [d] }
  | _ => none }
def FnDaysInFourHundredYearCycleWrongFalsely : Prop := fnDaysInFourHundredYearCycleRow.holds Try.pinned (OpenSpec.ofChange fnDaysInFourHundredYearCycleWrong)

/-- 'zzlaws_usagelog_b1.FnCivilDaysCountsFromEpoch': WHATEVER THE INPUT: true; the input reads as it did. -/
def fnCivilDaysCountsFromEpochSpec : ChangeSpec := { name := "fnCivilDaysCountsFromEpoch", fn := fun _ => fun
  | [d1, d2, d3] => { results := [.lit (.bool true)], args := [d1, d2, d3] }
  | _ => none }
def fnCivilDaysCountsFromEpochRow : OpenClaim := { program := "qxb6602703a", sum := "681e5982fc290070edff64f491e8e03cdb58984a585028021608c9086d9251e2", func := "example.com/idunn/idunn/zzlaws_usagelog_b1.FnCivilDaysCountsFromEpoch", spec := "fnCivilDaysCountsFromEpoch", apart := false }
def FnCivilDaysCountsFromEpochSaid : Prop := fnCivilDaysCountsFromEpochRow.holds Try.pinned (OpenSpec.ofChange fnCivilDaysCountsFromEpochSpec)

/-- ITS FALSE NEIGHBOUR: 'it returns false'. Refute it at one input. -/
def fnCivilDaysCountsFromEpochWrong : ChangeSpec := { name := "fnCivilDaysCountsFromEpoch", fn := fun _ => fun
  | [d1, d2, d3] => { results := [.lit (.bool false)], args := [d1, d2, d3] }
  | _ => none }
def FnCivilDaysCountsFromEpochWrongFalsely : Prop := fnCivilDaysCountsFromEpochRow.holds Try.pinned (OpenSpec.ofChange fnCivilDaysCountsFromEpochWrong)

/-- 'zzlaws_usagelog_b1.FnCivilDaysNextDayIsOneMore': WHATEVER THE INPUT: true; the input reads as it did. -/
def fnCivilDaysNextDayIsOneMoreSpec : ChangeSpec := { name := "fnCivilDaysNextDayIsOneMore", fn := fun _ => fun
  | [d1, d2, d3] => { results := [.lit (.bool true)], args := [d1, d2, d3] }
  | _ => none }
def fnCivilDaysNextDayIsOneMoreRow : OpenClaim := { program := "qxb6602703a", sum := "681e5982fc290070edff64f491e8e03cdb58984a585028021608c9086d9251e2", func := "example.com/idunn/idunn/zzlaws_usagelog_b1.FnCivilDaysNextDayIsOneMore", spec := "fnCivilDaysNextDayIsOneMore", apart := false }
def FnCivilDaysNextDayIsOneMoreSaid : Prop := fnCivilDaysNextDayIsOneMoreRow.holds Try.pinned (OpenSpec.ofChange fnCivilDaysNextDayIsOneMoreSpec)

/-- ITS FALSE NEIGHBOUR: 'it returns false'. Refute it at one input. -/
def fnCivilDaysNextDayIsOneMoreWrong : ChangeSpec := { name := "fnCivilDaysNextDayIsOneMore", fn := fun _ => fun
  | [d1, d2, d3] => { results := [.lit (.bool false)], args := [d1, d2, d3] }
  | _ => none }
def FnCivilDaysNextDayIsOneMoreWrongFalsely : Prop := fnCivilDaysNextDayIsOneMoreRow.holds Try.pinned (OpenSpec.ofChange fnCivilDaysNextDayIsOneMoreWrong)

/-- 'zzlaws_usagelog_b1.FnCivilDaysKeepsDateOrder': WHATEVER THE INPUT: true; the input reads as it did. -/
def fnCivilDaysKeepsDateOrderSpec : ChangeSpec := { name := "fnCivilDaysKeepsDateOrder", fn := fun _ => fun
  | [d1, d2, d3, d4, d5, d6] => { results := [.lit (.bool true)], args := [d1, d2, d3, d4, d5, d6] }
  | _ => none }
def fnCivilDaysKeepsDateOrderRow : OpenClaim := { program := "qxb6602703a", sum := "681e5982fc290070edff64f491e8e03cdb58984a585028021608c9086d9251e2", func := "example.com/idunn/idunn/zzlaws_usagelog_b1.FnCivilDaysKeepsDateOrder", spec := "fnCivilDaysKeepsDateOrder", apart := false }
def FnCivilDaysKeepsDateOrderSaid : Prop := fnCivilDaysKeepsDateOrderRow.holds Try.pinned (OpenSpec.ofChange fnCivilDaysKeepsDateOrderSpec)

/-- ITS FALSE NEIGHBOUR: 'it returns false'. Refute it at one input. -/
def fnCivilDaysKeepsDateOrderWrong : ChangeSpec := { name := "fnCivilDaysKeepsDateOrder", fn := fun _ => fun
  | [d1, d2, d3, d4, d5, d6] => { results := [.lit (.bool false)], args := [d1, d2, d3, d4, d5, d6] }
  | _ => none }
def FnCivilDaysKeepsDateOrderWrongFalsely : Prop := fnCivilDaysKeepsDateOrderRow.holds Try.pinned (OpenSpec.ofChange fnCivilDaysKeepsDateOrderWrong)

end Rows
end Go.Proofs.Qxb6602703a
