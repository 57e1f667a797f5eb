/-
  No cell of these rows narrows 'for every input' (looked for: loops, veiled, ifaces, maps, wideKeys, modest, calm, conditions, laid).
  DERIVED. THE GIVEN ROWS OF THIS SEAT. 7 by the template 'for every input the law returns true; each argument reads behind the call as it read before'; 0 by the template 'total and deterministic' (their statements: Qxb6000488aTotals.lean).
  GIVEN WITH THE SEED: the statements are not yours to turn. If you find one false, say at which input.
  Laid BY PROGRAM, IN A SANDBOX (cutbox-rows.mjs): the forced cells as the released guide's own fill.sh prints them over the translation 5081d1db0b778baa… (all of the seat's roots in one cut). By AI agents, Wed Nov 11 2026. No macro, syntax, notation, axiom, sorry.
-/
import Derived.Test.Qxb6000488aChecked
import GoSem.Claim
import GoSem.ClaimJoined
import GoSem.ClaimMapViews
import Derived.JoinedTies
import Derived.KernelRfl
namespace Go.Proofs.Qxb6000488a
/- THE CELL 'sum', in the pinned program and in every row, IS THE sha256 OF THE DUMP (.gsa) THAT Qxb6000488aProg.lean LOADS. Nothing in Lean hashes anything: it is a label: what it is worth is what the hold of that sum in a sandbox is worth. -/
noncomputable def Try.pinned : Pinned := { name := "qxb6000488a", sum := "5081d1db0b778baad907cbc1ee82af4bb8989a1c69c0121d4b2fc5283128f91e", checked := Try.checked }
namespace Rows
def none {H : Type} : Left H := { results := [], args := [] }

/-- 'zzlaws_root_b1.FnMonthOfWordMatchesByteModel': WHATEVER THE INPUT: true; the input reads as it did. -/
def fnMonthOfWordMatchesByteModelSpec : ChangeSpec := { name := "fnMonthOfWordMatchesByteModel", fn := fun _ => fun
  | [d] => { results := [.lit (.bool true)], args := [d] }
  | _ => none }
def fnMonthOfWordMatchesByteModelRow : OpenClaim := { program := "qxb6000488a", sum := "5081d1db0b778baad907cbc1ee82af4bb8989a1c69c0121d4b2fc5283128f91e", func := "example.com/vestline/vestline/zzlaws_root_b1.FnMonthOfWordMatchesByteModel", spec := "fnMonthOfWordMatchesByteModel", apart := false }
def FnMonthOfWordMatchesByteModelSaid : Prop := fnMonthOfWordMatchesByteModelRow.holds Try.pinned (OpenSpec.ofChange fnMonthOfWordMatchesByteModelSpec)

/-- ITS FALSE NEIGHBOUR: 'it returns false'. Refute it at one input. -/
def fnMonthOfWordMatchesByteModelWrong : ChangeSpec := { name := "fnMonthOfWordMatchesByteModel", fn := fun _ => fun
  | [d] => { results := [.lit (.bool false)], args := [d] }
  | _ => none }
def FnMonthOfWordMatchesByteModelWrongFalsely : Prop := fnMonthOfWordMatchesByteModelRow.holds Try.pinned (OpenSpec.ofChange fnMonthOfWordMatchesByteModelWrong)

/-- 'zzlaws_root_b1.FnMonthOfWordReadsWhatIsWritten': WHATEVER THE INPUT: true; the input reads as it did. -/
def fnMonthOfWordReadsWhatIsWrittenSpec : ChangeSpec := { name := "fnMonthOfWordReadsWhatIsWritten", fn := fun _ => fun
  | [d1, d2, d3] => { results := [.lit (.bool true)], args := [d1, d2, d3] }
  | _ => none }
def fnMonthOfWordReadsWhatIsWrittenRow : OpenClaim := { program := "qxb6000488a", sum := "5081d1db0b778baad907cbc1ee82af4bb8989a1c69c0121d4b2fc5283128f91e", func := "example.com/vestline/vestline/zzlaws_root_b1.FnMonthOfWordReadsWhatIsWritten", spec := "fnMonthOfWordReadsWhatIsWritten", apart := false }
def FnMonthOfWordReadsWhatIsWrittenSaid : Prop := fnMonthOfWordReadsWhatIsWrittenRow.holds Try.pinned (OpenSpec.ofChange fnMonthOfWordReadsWhatIsWrittenSpec)

/-- ITS FALSE NEIGHBOUR: 'it returns false'. Refute it at one input. -/
def fnMonthOfWordReadsWhatIsWrittenWrong : ChangeSpec := { name := "fnMonthOfWordReadsWhatIsWritten", fn := fun _ => fun
  | [d1, d2, d3] => { results := [.lit (.bool false)], args := [d1, d2, d3] }
  | _ => none }
def FnMonthOfWordReadsWhatIsWrittenWrongFalsely : Prop := fnMonthOfWordReadsWhatIsWrittenRow.holds Try.pinned (OpenSpec.ofChange fnMonthOfWordReadsWhatIsWrittenWrong)

/-- 'zzlaws_root_b1.FnMonthOfWordKeepsCalendarOrder': WHATEVER THE INPUT: true; the input reads as it did. -/
def fnMonthOfWordKeepsCalendarOrderSpec : ChangeSpec := { name := "fnMonthOfWordKeepsCalendarOrder", fn := fun _ => fun
  | [d1, d2, d3, d4] => { results := [.lit (.bool true)], args := [d1, d2, d3, d4] }
  | _ => none }
def fnMonthOfWordKeepsCalendarOrderRow : OpenClaim := { program := "qxb6000488a", sum := "5081d1db0b778baad907cbc1ee82af4bb8989a1c69c0121d4b2fc5283128f91e", func := "example.com/vestline/vestline/zzlaws_root_b1.FnMonthOfWordKeepsCalendarOrder", spec := "fnMonthOfWordKeepsCalendarOrder", apart := false }
def FnMonthOfWordKeepsCalendarOrderSaid : Prop := fnMonthOfWordKeepsCalendarOrderRow.holds Try.pinned (OpenSpec.ofChange fnMonthOfWordKeepsCalendarOrderSpec)

/-- ITS FALSE NEIGHBOUR: 'it returns false'. Refute it at one input. -/
def fnMonthOfWordKeepsCalendarOrderWrong : ChangeSpec := { name := "fnMonthOfWordKeepsCalendarOrder", fn := fun _ => fun
  | [d1, d2, d3, d4] => { results := [.lit (.bool false)], args := [d1, d2, d3, d4] }
  | _ => none }
def FnMonthOfWordKeepsCalendarOrderWrongFalsely : Prop := fnMonthOfWordKeepsCalendarOrderRow.holds Try.pinned (OpenSpec.ofChange fnMonthOfWordKeepsCalendarOrderWrong)

/-- 'zzlaws_root_b1.FnPlainNameFindsFirstMatchOnly': WHATEVER THE INPUT: true; the input reads as it did. -/
def fnPlainNameFindsFirstMatchOnlySpec : ChangeSpec := { name := "fnPlainNameFindsFirstMatchOnly", fn := fun _ => fun
  | [d1, d2] => { results := [.lit (.bool true)], args := [d1, d2] }
  | _ => none }
def fnPlainNameFindsFirstMatchOnlyRow : OpenClaim := { program := "qxb6000488a", sum := "5081d1db0b778baad907cbc1ee82af4bb8989a1c69c0121d4b2fc5283128f91e", func := "example.com/vestline/vestline/zzlaws_root_b1.FnPlainNameFindsFirstMatchOnly", spec := "fnPlainNameFindsFirstMatchOnly", apart := false }
def FnPlainNameFindsFirstMatchOnlySaid : Prop := fnPlainNameFindsFirstMatchOnlyRow.holds Try.pinned (OpenSpec.ofChange fnPlainNameFindsFirstMatchOnlySpec)

/-- ITS FALSE NEIGHBOUR: 'it returns false'. Refute it at one input. -/
def fnPlainNameFindsFirstMatchOnlyWrong : ChangeSpec := { name := "fnPlainNameFindsFirstMatchOnly", fn := fun _ => fun
  | [d1, d2] => { results := [.lit (.bool false)], args := [d1, d2] }
  | _ => none }
def FnPlainNameFindsFirstMatchOnlyWrongFalsely : Prop := fnPlainNameFindsFirstMatchOnlyRow.holds Try.pinned (OpenSpec.ofChange fnPlainNameFindsFirstMatchOnlyWrong)

/-- 'zzlaws_root_b1.FnPlainNameStableUnderAppend': WHATEVER THE INPUT: true; the input reads as it did. -/
def fnPlainNameStableUnderAppendSpec : ChangeSpec := { name := "fnPlainNameStableUnderAppend", fn := fun _ => fun
  | [d1, d2, d3] => { results := [.lit (.bool true)], args := [d1, d2, d3] }
  | _ => none }
def fnPlainNameStableUnderAppendRow : OpenClaim := { program := "qxb6000488a", sum := "5081d1db0b778baad907cbc1ee82af4bb8989a1c69c0121d4b2fc5283128f91e", func := "example.com/vestline/vestline/zzlaws_root_b1.FnPlainNameStableUnderAppend", spec := "fnPlainNameStableUnderAppend", apart := false }
def FnPlainNameStableUnderAppendSaid : Prop := fnPlainNameStableUnderAppendRow.holds Try.pinned (OpenSpec.ofChange fnPlainNameStableUnderAppendSpec)

/-- ITS FALSE NEIGHBOUR: 'it returns false'. Refute it at one input. -/
def fnPlainNameStableUnderAppendWrong : ChangeSpec := { name := "fnPlainNameStableUnderAppend", fn := fun _ => fun
  | [d1, d2, d3] => { results := [.lit (.bool false)], args := [d1, d2, d3] }
  | _ => none }
def FnPlainNameStableUnderAppendWrongFalsely : Prop := fnPlainNameStableUnderAppendRow.holds Try.pinned (OpenSpec.ofChange fnPlainNameStableUnderAppendWrong)

/-- 'zzlaws_root_b1.FnRangeTextEmptyOnlyWhenBothEndsOpen': WHATEVER THE INPUT: true; the input reads as it did. -/
def fnRangeTextEmptyOnlyWhenBothEndsOpenSpec : ChangeSpec := { name := "fnRangeTextEmptyOnlyWhenBothEndsOpen", fn := fun _ => fun
  | [d1, d2] => { results := [.lit (.bool true)], args := [d1, d2] }
  | _ => none }
def fnRangeTextEmptyOnlyWhenBothEndsOpenRow : OpenClaim := { program := "qxb6000488a", sum := "5081d1db0b778baad907cbc1ee82af4bb8989a1c69c0121d4b2fc5283128f91e", func := "example.com/vestline/vestline/zzlaws_root_b1.FnRangeTextEmptyOnlyWhenBothEndsOpen", spec := "fnRangeTextEmptyOnlyWhenBothEndsOpen", apart := false }
def FnRangeTextEmptyOnlyWhenBothEndsOpenSaid : Prop := fnRangeTextEmptyOnlyWhenBothEndsOpenRow.holds Try.pinned (OpenSpec.ofChange fnRangeTextEmptyOnlyWhenBothEndsOpenSpec)

/-- ITS FALSE NEIGHBOUR: 'it returns false'. Refute it at one input. -/
def fnRangeTextEmptyOnlyWhenBothEndsOpenWrong : ChangeSpec := { name := "fnRangeTextEmptyOnlyWhenBothEndsOpen", fn := fun _ => fun
  | [d1, d2] => { results := [.lit (.bool false)], args := [d1, d2] }
  | _ => none }
def FnRangeTextEmptyOnlyWhenBothEndsOpenWrongFalsely : Prop := fnRangeTextEmptyOnlyWhenBothEndsOpenRow.holds Try.pinned (OpenSpec.ofChange fnRangeTextEmptyOnlyWhenBothEndsOpenWrong)

/-- 'zzlaws_root_b1.FnRangeTextParsesBack': WHATEVER THE INPUT: true; the input reads as it did. -/
def fnRangeTextParsesBackSpec : ChangeSpec := { name := "fnRangeTextParsesBack", fn := fun _ => fun
  | [d1, d2] => { results := [.lit (.bool true)], args := [d1, d2] }
  | _ => none }
def fnRangeTextParsesBackRow : OpenClaim := { program := "qxb6000488a", sum := "5081d1db0b778baad907cbc1ee82af4bb8989a1c69c0121d4b2fc5283128f91e", func := "example.com/vestline/vestline/zzlaws_root_b1.FnRangeTextParsesBack", spec := "fnRangeTextParsesBack", apart := false }
def FnRangeTextParsesBackSaid : Prop := fnRangeTextParsesBackRow.holds Try.pinned (OpenSpec.ofChange fnRangeTextParsesBackSpec)

/-- ITS FALSE NEIGHBOUR: 'it returns false'. Refute it at one input. -/
def fnRangeTextParsesBackWrong : ChangeSpec := { name := "fnRangeTextParsesBack", fn := fun _ => fun
  | [d1, d2] => { results := [.lit (.bool false)], args := [d1, d2] }
  | _ => none }
def FnRangeTextParsesBackWrongFalsely : Prop := fnRangeTextParsesBackRow.holds Try.pinned (OpenSpec.ofChange fnRangeTextParsesBackWrong)

end Rows
end Go.Proofs.Qxb6000488a
