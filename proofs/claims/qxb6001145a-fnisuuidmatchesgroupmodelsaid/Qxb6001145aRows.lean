/-
  No cell of these rows narrows 'for every input' (looked for: loops, veiled, ifaces, maps, wideKeys, modest, calm, conditions, laid).
  DERIVED. THE GIVEN ROWS OF THIS SEAT. 3 by the template 'for every input the law returns true; each argument reads behind the call as it read before'; 0 by the template 'total and deterministic' (their statements: Qxb6001145aTotals.lean).
  GIVEN WITH THE SEED: the statements are not yours to turn. If you find one false, say at which input.
  Laid BY PROGRAM, IN A SANDBOX (cutbox-rows.mjs): the forced cells as the released guide's own fill.sh prints them over the translation d7b67f233c5e52a6… (all of the seat's roots in one cut). By AI agents, Wed Nov 11 2026. No macro, syntax, notation, axiom, sorry.
-/
import Derived.Test.Qxb6001145aChecked
import GoSem.Claim
import GoSem.ClaimJoined
import GoSem.ClaimMapViews
import Derived.JoinedTies
import Derived.KernelRfl
namespace Go.Proofs.Qxb6001145a
/- THE CELL 'sum', in the pinned program and in every row, IS THE sha256 OF THE DUMP (.gsa) THAT Qxb6001145aProg.lean LOADS. Nothing in Lean hashes anything: it is a label: what it is worth is what the hold of that sum in a sandbox is worth. -/
noncomputable def Try.pinned : Pinned := { name := "qxb6001145a", sum := "d7b67f233c5e52a66df5f3cb0df9311ef9cc1fed424d9c8e44c324fdf84ff0de", checked := Try.checked }
namespace Rows
def none {H : Type} : Left H := { results := [], args := [] }

/-- 'zzlaws_internal_store_b1.FnIsUUIDMatchesGroupModel': WHATEVER THE INPUT: true; the input reads as it did. -/
def fnIsUUIDMatchesGroupModelSpec : ChangeSpec := { name := "fnIsUUIDMatchesGroupModel", fn := fun _ => fun
  | [d] => { results := [.lit (.bool true)], args := [d] }
  | _ => none }
def fnIsUUIDMatchesGroupModelRow : OpenClaim := { program := "qxb6001145a", sum := "d7b67f233c5e52a66df5f3cb0df9311ef9cc1fed424d9c8e44c324fdf84ff0de", func := "example.com/anchorday/anchorday/zzlaws_internal_store_b1.FnIsUUIDMatchesGroupModel", spec := "fnIsUUIDMatchesGroupModel", apart := false }
def FnIsUUIDMatchesGroupModelSaid : Prop := fnIsUUIDMatchesGroupModelRow.holds Try.pinned (OpenSpec.ofChange fnIsUUIDMatchesGroupModelSpec)

/-- ITS FALSE NEIGHBOUR: 'it returns false'. Refute it at one input. -/
def fnIsUUIDMatchesGroupModelWrong : ChangeSpec := { name := "fnIsUUIDMatchesGroupModel", fn := fun _ => fun
  | [d] => { results := [.lit (.bool false)], args := [d] }
  | _ => none }
def FnIsUUIDMatchesGroupModelWrongFalsely : Prop := fnIsUUIDMatchesGroupModelRow.holds Try.pinned (OpenSpec.ofChange fnIsUUIDMatchesGroupModelWrong)

/-- 'zzlaws_internal_store_b1.FnIsUUIDIgnoresASCIICase': WHATEVER THE INPUT: true; the input reads as it did. -/
def fnIsUUIDIgnoresASCIICaseSpec : ChangeSpec := { name := "fnIsUUIDIgnoresASCIICase", fn := fun _ => fun
  | [d] => { results := [.lit (.bool true)], args := [d] }
  | _ => none }
def fnIsUUIDIgnoresASCIICaseRow : OpenClaim := { program := "qxb6001145a", sum := "d7b67f233c5e52a66df5f3cb0df9311ef9cc1fed424d9c8e44c324fdf84ff0de", func := "example.com/anchorday/anchorday/zzlaws_internal_store_b1.FnIsUUIDIgnoresASCIICase", spec := "fnIsUUIDIgnoresASCIICase", apart := false }
def FnIsUUIDIgnoresASCIICaseSaid : Prop := fnIsUUIDIgnoresASCIICaseRow.holds Try.pinned (OpenSpec.ofChange fnIsUUIDIgnoresASCIICaseSpec)

/-- ITS FALSE NEIGHBOUR: 'it returns false'. Refute it at one input. -/
def fnIsUUIDIgnoresASCIICaseWrong : ChangeSpec := { name := "fnIsUUIDIgnoresASCIICase", fn := fun _ => fun
  | [d] => { results := [.lit (.bool false)], args := [d] }
  | _ => none }
def FnIsUUIDIgnoresASCIICaseWrongFalsely : Prop := fnIsUUIDIgnoresASCIICaseRow.holds Try.pinned (OpenSpec.ofChange fnIsUUIDIgnoresASCIICaseWrong)

/-- 'zzlaws_internal_store_b1.FnIsUUIDJudgesEachByteOfAFormattedID': WHATEVER THE INPUT: true; the input reads as it did. -/
def fnIsUUIDJudgesEachByteOfAFormattedIDSpec : ChangeSpec := { name := "fnIsUUIDJudgesEachByteOfAFormattedID", fn := fun _ => fun
  | [d1, d2, d3, d4] => { results := [.lit (.bool true)], args := [d1, d2, d3, d4] }
  | _ => none }
def fnIsUUIDJudgesEachByteOfAFormattedIDRow : OpenClaim := { program := "qxb6001145a", sum := "d7b67f233c5e52a66df5f3cb0df9311ef9cc1fed424d9c8e44c324fdf84ff0de", func := "example.com/anchorday/anchorday/zzlaws_internal_store_b1.FnIsUUIDJudgesEachByteOfAFormattedID", spec := "fnIsUUIDJudgesEachByteOfAFormattedID", apart := false }
def FnIsUUIDJudgesEachByteOfAFormattedIDSaid : Prop := fnIsUUIDJudgesEachByteOfAFormattedIDRow.holds Try.pinned (OpenSpec.ofChange fnIsUUIDJudgesEachByteOfAFormattedIDSpec)

/-- ITS FALSE NEIGHBOUR: 'it returns false'. Refute it at one input. -/
def fnIsUUIDJudgesEachByteOfAFormattedIDWrong : ChangeSpec := { name := "fnIsUUIDJudgesEachByteOfAFormattedID", fn := fun _ => fun
  | [d1, d2, d3, d4] => { results := [.lit (.bool false)], args := [d1, d2, d3, d4] }
  | _ => none }
def FnIsUUIDJudgesEachByteOfAFormattedIDWrongFalsely : Prop := fnIsUUIDJudgesEachByteOfAFormattedIDRow.holds Try.pinned (OpenSpec.ofChange fnIsUUIDJudgesEachByteOfAFormattedIDWrong)

end Rows
end Go.Proofs.Qxb6001145a
