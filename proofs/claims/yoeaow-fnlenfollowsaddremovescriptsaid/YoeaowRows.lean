/-
  No cell of these rows narrows 'for every input' (looked for: loops, veiled, ifaces, maps, wideKeys, modest, calm, conditions, laid).
  DERIVED. THE GIVEN ROWS OF THIS SEAT. 7 by the template 'for every input the law returns true; each argument reads behind the call as it read before'; 0 by the template 'total and deterministic' (their statements: YoeaowTotals.lean).
  GIVEN WITH THE SEED: the statements are not yours to turn. If you find one false, say at which input.
  Laid BY PROGRAM, IN A SANDBOX (cutbox-rows.mjs): the forced cells as the released guide's own fill.sh prints them over the translation 8a7f6086629fa1ab… (all of the seat's roots in one cut). By AI agents, Wed Nov 11 2026. No macro, syntax, notation, axiom, sorry.
-/
import Derived.Test.YoeaowChecked
import GoSem.Claim
import GoSem.ClaimJoined
import GoSem.ClaimMapViews
import Derived.JoinedTies
import Derived.KernelRfl
namespace Go.Proofs.Yoeaow
/- THE CELL 'sum', in the pinned program and in every row, IS THE sha256 OF THE DUMP (.gsa) THAT YoeaowProg.lean LOADS. Nothing in Lean hashes anything: it is a label: what it is worth is what the hold of that sum in a sandbox is worth. -/
noncomputable def Eaog.pinned : Pinned := { name := "yoeaow", sum := "8a7f6086629fa1ab24eee2f16aeccb60fd1bb1e7ae3c3acd79ed4415f6531f17", checked := Eaog.checked }
namespace Rows
def none {H : Type} : Left H := { results := [], args := [] }

/-- 'zzlaws_root_b3.FnLenCountsDistinctNamesLastWins': WHATEVER THE INPUT: true; the input reads as it did. -/
def fnLenCountsDistinctNamesLastWinsSpec : ChangeSpec := { name := "fnLenCountsDistinctNamesLastWins", fn := fun _ => fun
  | [d1, d2] => { results := [.lit (.bool true)], args := [d1, d2] }
  | _ => none }
def fnLenCountsDistinctNamesLastWinsRow : OpenClaim := { program := "yoeaow", sum := "8a7f6086629fa1ab24eee2f16aeccb60fd1bb1e7ae3c3acd79ed4415f6531f17", func := "github.com/d5/tengo/v2/zzlaws_root_b3.FnLenCountsDistinctNamesLastWins", spec := "fnLenCountsDistinctNamesLastWins", apart := false }
def FnLenCountsDistinctNamesLastWinsSaid : Prop := fnLenCountsDistinctNamesLastWinsRow.holds Eaog.pinned (OpenSpec.ofChange fnLenCountsDistinctNamesLastWinsSpec)

/-- ITS FALSE NEIGHBOUR: 'it returns false'. Refute it at one input. -/
def fnLenCountsDistinctNamesLastWinsWrong : ChangeSpec := { name := "fnLenCountsDistinctNamesLastWins", fn := fun _ => fun
  | [d1, d2] => { results := [.lit (.bool false)], args := [d1, d2] }
  | _ => none }
def FnLenCountsDistinctNamesLastWinsWrongFalsely : Prop := fnLenCountsDistinctNamesLastWinsRow.holds Eaog.pinned (OpenSpec.ofChange fnLenCountsDistinctNamesLastWinsWrong)

/-- 'zzlaws_root_b3.FnLenFollowsAddRemoveScript': WHATEVER THE INPUT: true; the input reads as it did. -/
def fnLenFollowsAddRemoveScriptSpec : ChangeSpec := { name := "fnLenFollowsAddRemoveScript", fn := fun _ => fun
  | [d1, d2] => { results := [.lit (.bool true)], args := [d1, d2] }
  | _ => none }
def fnLenFollowsAddRemoveScriptRow : OpenClaim := { program := "yoeaow", sum := "8a7f6086629fa1ab24eee2f16aeccb60fd1bb1e7ae3c3acd79ed4415f6531f17", func := "github.com/d5/tengo/v2/zzlaws_root_b3.FnLenFollowsAddRemoveScript", spec := "fnLenFollowsAddRemoveScript", apart := false }
def FnLenFollowsAddRemoveScriptSaid : Prop := fnLenFollowsAddRemoveScriptRow.holds Eaog.pinned (OpenSpec.ofChange fnLenFollowsAddRemoveScriptSpec)

/-- ITS FALSE NEIGHBOUR: 'it returns false'. Refute it at one input. -/
def fnLenFollowsAddRemoveScriptWrong : ChangeSpec := { name := "fnLenFollowsAddRemoveScript", fn := fun _ => fun
  | [d1, d2] => { results := [.lit (.bool false)], args := [d1, d2] }
  | _ => none }
def FnLenFollowsAddRemoveScriptWrongFalsely : Prop := fnLenFollowsAddRemoveScriptRow.holds Eaog.pinned (OpenSpec.ofChange fnLenFollowsAddRemoveScriptWrong)

/-- 'zzlaws_root_b3.FnCopyHasSameEntries': WHATEVER THE INPUT: true; the input reads as it did. -/
def fnCopyHasSameEntriesSpec : ChangeSpec := { name := "fnCopyHasSameEntries", fn := fun _ => fun
  | [d1, d2, d3] => { results := [.lit (.bool true)], args := [d1, d2, d3] }
  | _ => none }
def fnCopyHasSameEntriesRow : OpenClaim := { program := "yoeaow", sum := "8a7f6086629fa1ab24eee2f16aeccb60fd1bb1e7ae3c3acd79ed4415f6531f17", func := "github.com/d5/tengo/v2/zzlaws_root_b3.FnCopyHasSameEntries", spec := "fnCopyHasSameEntries", apart := false }
def FnCopyHasSameEntriesSaid : Prop := fnCopyHasSameEntriesRow.holds Eaog.pinned (OpenSpec.ofChange fnCopyHasSameEntriesSpec)

/-- ITS FALSE NEIGHBOUR: 'it returns false'. Refute it at one input. -/
def fnCopyHasSameEntriesWrong : ChangeSpec := { name := "fnCopyHasSameEntries", fn := fun _ => fun
  | [d1, d2, d3] => { results := [.lit (.bool false)], args := [d1, d2, d3] }
  | _ => none }
def FnCopyHasSameEntriesWrongFalsely : Prop := fnCopyHasSameEntriesRow.holds Eaog.pinned (OpenSpec.ofChange fnCopyHasSameEntriesWrong)

/-- 'zzlaws_root_b3.FnCopyIsIndependentOfOriginal': WHATEVER THE INPUT: true; the input reads as it did. -/
def fnCopyIsIndependentOfOriginalSpec : ChangeSpec := { name := "fnCopyIsIndependentOfOriginal", fn := fun _ => fun
  | [d1, d2, d3] => { results := [.lit (.bool true)], args := [d1, d2, d3] }
  | _ => none }
def fnCopyIsIndependentOfOriginalRow : OpenClaim := { program := "yoeaow", sum := "8a7f6086629fa1ab24eee2f16aeccb60fd1bb1e7ae3c3acd79ed4415f6531f17", func := "github.com/d5/tengo/v2/zzlaws_root_b3.FnCopyIsIndependentOfOriginal", spec := "fnCopyIsIndependentOfOriginal", apart := false }
def FnCopyIsIndependentOfOriginalSaid : Prop := fnCopyIsIndependentOfOriginalRow.holds Eaog.pinned (OpenSpec.ofChange fnCopyIsIndependentOfOriginalSpec)

/-- ITS FALSE NEIGHBOUR: 'it returns false'. Refute it at one input. -/
def fnCopyIsIndependentOfOriginalWrong : ChangeSpec := { name := "fnCopyIsIndependentOfOriginal", fn := fun _ => fun
  | [d1, d2, d3] => { results := [.lit (.bool false)], args := [d1, d2, d3] }
  | _ => none }
def FnCopyIsIndependentOfOriginalWrongFalsely : Prop := fnCopyIsIndependentOfOriginalRow.holds Eaog.pinned (OpenSpec.ofChange fnCopyIsIndependentOfOriginalWrong)

/-- 'zzlaws_root_b3.FnAddMapIsRightBiasedUnion': WHATEVER THE INPUT: true; the input reads as it did. -/
def fnAddMapIsRightBiasedUnionSpec : ChangeSpec := { name := "fnAddMapIsRightBiasedUnion", fn := fun _ => fun
  | [d1, d2, d3, d4] => { results := [.lit (.bool true)], args := [d1, d2, d3, d4] }
  | _ => none }
def fnAddMapIsRightBiasedUnionRow : OpenClaim := { program := "yoeaow", sum := "8a7f6086629fa1ab24eee2f16aeccb60fd1bb1e7ae3c3acd79ed4415f6531f17", func := "github.com/d5/tengo/v2/zzlaws_root_b3.FnAddMapIsRightBiasedUnion", spec := "fnAddMapIsRightBiasedUnion", apart := false }
def FnAddMapIsRightBiasedUnionSaid : Prop := fnAddMapIsRightBiasedUnionRow.holds Eaog.pinned (OpenSpec.ofChange fnAddMapIsRightBiasedUnionSpec)

/-- ITS FALSE NEIGHBOUR: 'it returns false'. Refute it at one input. -/
def fnAddMapIsRightBiasedUnionWrong : ChangeSpec := { name := "fnAddMapIsRightBiasedUnion", fn := fun _ => fun
  | [d1, d2, d3, d4] => { results := [.lit (.bool false)], args := [d1, d2, d3, d4] }
  | _ => none }
def FnAddMapIsRightBiasedUnionWrongFalsely : Prop := fnAddMapIsRightBiasedUnionRow.holds Eaog.pinned (OpenSpec.ofChange fnAddMapIsRightBiasedUnionWrong)

/-- 'zzlaws_root_b3.FnAddMapIsIdempotentAndFillsEmptyAsCopy': WHATEVER THE INPUT: true; the input reads as it did. -/
def fnAddMapIsIdempotentAndFillsEmptyAsCopySpec : ChangeSpec := { name := "fnAddMapIsIdempotentAndFillsEmptyAsCopy", fn := fun _ => fun
  | [d1, d2, d3, d4] => { results := [.lit (.bool true)], args := [d1, d2, d3, d4] }
  | _ => none }
def fnAddMapIsIdempotentAndFillsEmptyAsCopyRow : OpenClaim := { program := "yoeaow", sum := "8a7f6086629fa1ab24eee2f16aeccb60fd1bb1e7ae3c3acd79ed4415f6531f17", func := "github.com/d5/tengo/v2/zzlaws_root_b3.FnAddMapIsIdempotentAndFillsEmptyAsCopy", spec := "fnAddMapIsIdempotentAndFillsEmptyAsCopy", apart := false }
def FnAddMapIsIdempotentAndFillsEmptyAsCopySaid : Prop := fnAddMapIsIdempotentAndFillsEmptyAsCopyRow.holds Eaog.pinned (OpenSpec.ofChange fnAddMapIsIdempotentAndFillsEmptyAsCopySpec)

/-- ITS FALSE NEIGHBOUR: 'it returns false'. Refute it at one input. -/
def fnAddMapIsIdempotentAndFillsEmptyAsCopyWrong : ChangeSpec := { name := "fnAddMapIsIdempotentAndFillsEmptyAsCopy", fn := fun _ => fun
  | [d1, d2, d3, d4] => { results := [.lit (.bool false)], args := [d1, d2, d3, d4] }
  | _ => none }
def FnAddMapIsIdempotentAndFillsEmptyAsCopyWrongFalsely : Prop := fnAddMapIsIdempotentAndFillsEmptyAsCopyRow.holds Eaog.pinned (OpenSpec.ofChange fnAddMapIsIdempotentAndFillsEmptyAsCopyWrong)

/-- 'zzlaws_root_b3.FnImportOfMapEntryGivesAddedSource': WHATEVER THE INPUT: true; the input reads as it did. -/
def fnImportOfMapEntryGivesAddedSourceSpec : ChangeSpec := { name := "fnImportOfMapEntryGivesAddedSource", fn := fun _ => fun
  | [d1, d2, d3] => { results := [.lit (.bool true)], args := [d1, d2, d3] }
  | _ => none }
def fnImportOfMapEntryGivesAddedSourceRow : OpenClaim := { program := "yoeaow", sum := "8a7f6086629fa1ab24eee2f16aeccb60fd1bb1e7ae3c3acd79ed4415f6531f17", func := "github.com/d5/tengo/v2/zzlaws_root_b3.FnImportOfMapEntryGivesAddedSource", spec := "fnImportOfMapEntryGivesAddedSource", apart := false }
def FnImportOfMapEntryGivesAddedSourceSaid : Prop := fnImportOfMapEntryGivesAddedSourceRow.holds Eaog.pinned (OpenSpec.ofChange fnImportOfMapEntryGivesAddedSourceSpec)

/-- ITS FALSE NEIGHBOUR: 'it returns false'. Refute it at one input. -/
def fnImportOfMapEntryGivesAddedSourceWrong : ChangeSpec := { name := "fnImportOfMapEntryGivesAddedSource", fn := fun _ => fun
  | [d1, d2, d3] => { results := [.lit (.bool false)], args := [d1, d2, d3] }
  | _ => none }
def FnImportOfMapEntryGivesAddedSourceWrongFalsely : Prop := fnImportOfMapEntryGivesAddedSourceRow.holds Eaog.pinned (OpenSpec.ofChange fnImportOfMapEntryGivesAddedSourceWrong)

end Rows
end Go.Proofs.Yoeaow
