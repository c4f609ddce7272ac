/-
  No cell of these rows narrows 'for every input' (looked for: loops, veiled, ifaces, maps, wideKeys, modest, calm, conditions, laid).
  DERIVED. THE GIVEN ROWS OF THIS SEAT. 7 by the template 'for every input the law returns true; each argument reads behind the call as it read before'; 0 by the template 'total and deterministic' (their statements: Qxb6602847aModsTotals.lean).
  GIVEN WITH THE SEED: the statements are not yours to turn. If you find one false, say at which input.
  Laid BY PROGRAM, IN A SANDBOX (cutbox-rows.mjs): the forced cells as the released guide's own fill.sh prints them over the translation 88a3f16e17a05641… (all of the seat's roots in one cut). By AI agents, Wed Nov 11 2026. No macro, syntax, notation, axiom, sorry.
-/
import Derived.Test.Qxb6602847aModsChecked
import GoSem.Claim
import GoSem.ClaimJoined
import GoSem.ClaimMapViews
import Derived.JoinedTies
import Derived.KernelRfl
namespace Go.Proofs.Qxb6602847aMods
/- THE CELL 'sum', in the pinned program and in every row, IS THE sha256 OF THE DUMP (.gsa) THAT Qxb6602847aModsProg.lean LOADS. Nothing in Lean hashes anything: it is a label: what it is worth is what the hold of that sum in a sandbox is worth. -/
noncomputable def Trym.pinned : Pinned := { name := "qxb6602847amods", sum := "88a3f16e17a05641f64947dbab91f5436c205687306d79e72ce9c88e3288f473", checked := Trym.checked }
namespace Rows
def none {H : Type} : Left H := { results := [], args := [] }

/-- 'zzlaws_internal_book_b1.FnRecordLineMatchesLineStartModel': WHATEVER THE INPUT: true; the input reads as it did. -/
def fnRecordLineMatchesLineStartModelSpec : ChangeSpec := { name := "fnRecordLineMatchesLineStartModel", fn := fun _ => fun
  | [d1, d2, d3] => { results := [.lit (.bool true)], args := [d1, d2, d3] }
  | _ => none }
def fnRecordLineMatchesLineStartModelRow : OpenClaim := { program := "qxb6602847amods", sum := "88a3f16e17a05641f64947dbab91f5436c205687306d79e72ce9c88e3288f473", func := "example.com/gongyun/gongyun/zzlaws_internal_book_b1.FnRecordLineMatchesLineStartModel", spec := "fnRecordLineMatchesLineStartModel", inPlace := ["internal/bytealg.IndexByte"], make := .lifted ["publicsums"], apart := false }
def FnRecordLineMatchesLineStartModelSaid : Prop := fnRecordLineMatchesLineStartModelRow.holds Trym.pinned (OpenSpec.ofChange fnRecordLineMatchesLineStartModelSpec)

/-- ITS FALSE NEIGHBOUR: 'it returns false'. Refute it at one input. -/
def fnRecordLineMatchesLineStartModelWrong : ChangeSpec := { name := "fnRecordLineMatchesLineStartModel", fn := fun _ => fun
  | [d1, d2, d3] => { results := [.lit (.bool false)], args := [d1, d2, d3] }
  | _ => none }
def FnRecordLineMatchesLineStartModelWrongFalsely : Prop := fnRecordLineMatchesLineStartModelRow.holds Trym.pinned (OpenSpec.ofChange fnRecordLineMatchesLineStartModelWrong)

/-- 'zzlaws_internal_book_b1.FnRecordLineLaterRecordLiesFurtherDown': WHATEVER THE INPUT: true; the input reads as it did. -/
def fnRecordLineLaterRecordLiesFurtherDownSpec : ChangeSpec := { name := "fnRecordLineLaterRecordLiesFurtherDown", fn := fun _ => fun
  | [d1, d2, d3] => { results := [.lit (.bool true)], args := [d1, d2, d3] }
  | _ => none }
def fnRecordLineLaterRecordLiesFurtherDownRow : OpenClaim := { program := "qxb6602847amods", sum := "88a3f16e17a05641f64947dbab91f5436c205687306d79e72ce9c88e3288f473", func := "example.com/gongyun/gongyun/zzlaws_internal_book_b1.FnRecordLineLaterRecordLiesFurtherDown", spec := "fnRecordLineLaterRecordLiesFurtherDown", inPlace := ["internal/bytealg.IndexByte"], make := .lifted ["publicsums"], apart := false }
def FnRecordLineLaterRecordLiesFurtherDownSaid : Prop := fnRecordLineLaterRecordLiesFurtherDownRow.holds Trym.pinned (OpenSpec.ofChange fnRecordLineLaterRecordLiesFurtherDownSpec)

/-- ITS FALSE NEIGHBOUR: 'it returns false'. Refute it at one input. -/
def fnRecordLineLaterRecordLiesFurtherDownWrong : ChangeSpec := { name := "fnRecordLineLaterRecordLiesFurtherDown", fn := fun _ => fun
  | [d1, d2, d3] => { results := [.lit (.bool false)], args := [d1, d2, d3] }
  | _ => none }
def FnRecordLineLaterRecordLiesFurtherDownWrongFalsely : Prop := fnRecordLineLaterRecordLiesFurtherDownRow.holds Trym.pinned (OpenSpec.ofChange fnRecordLineLaterRecordLiesFurtherDownWrong)

/-- 'zzlaws_internal_book_b1.FnCutFieldsKeepsFieldsAndSplitsRecordAtEveryTab': WHATEVER THE INPUT: true; the input reads as it did. -/
def fnCutFieldsKeepsFieldsAndSplitsRecordAtEveryTabSpec : ChangeSpec := { name := "fnCutFieldsKeepsFieldsAndSplitsRecordAtEveryTab", fn := fun _ => fun
  | [d1, d2] => { results := [.lit (.bool true)], args := [d1, d2] }
  | _ => none }
def fnCutFieldsKeepsFieldsAndSplitsRecordAtEveryTabRow : OpenClaim := { program := "qxb6602847amods", sum := "88a3f16e17a05641f64947dbab91f5436c205687306d79e72ce9c88e3288f473", func := "example.com/gongyun/gongyun/zzlaws_internal_book_b1.FnCutFieldsKeepsFieldsAndSplitsRecordAtEveryTab", spec := "fnCutFieldsKeepsFieldsAndSplitsRecordAtEveryTab", inPlace := ["internal/bytealg.IndexByteString"], make := .lifted ["publicsums"], apart := false }
def FnCutFieldsKeepsFieldsAndSplitsRecordAtEveryTabSaid : Prop := fnCutFieldsKeepsFieldsAndSplitsRecordAtEveryTabRow.holds Trym.pinned (OpenSpec.ofChange fnCutFieldsKeepsFieldsAndSplitsRecordAtEveryTabSpec)

/-- ITS FALSE NEIGHBOUR: 'it returns false'. Refute it at one input. -/
def fnCutFieldsKeepsFieldsAndSplitsRecordAtEveryTabWrong : ChangeSpec := { name := "fnCutFieldsKeepsFieldsAndSplitsRecordAtEveryTab", fn := fun _ => fun
  | [d1, d2] => { results := [.lit (.bool false)], args := [d1, d2] }
  | _ => none }
def FnCutFieldsKeepsFieldsAndSplitsRecordAtEveryTabWrongFalsely : Prop := fnCutFieldsKeepsFieldsAndSplitsRecordAtEveryTabRow.holds Trym.pinned (OpenSpec.ofChange fnCutFieldsKeepsFieldsAndSplitsRecordAtEveryTabWrong)

/-- 'zzlaws_internal_book_b1.FnCutFieldsTwoCutsMakeOneAcrossATab': WHATEVER THE INPUT: true; the input reads as it did. -/
def fnCutFieldsTwoCutsMakeOneAcrossATabSpec : ChangeSpec := { name := "fnCutFieldsTwoCutsMakeOneAcrossATab", fn := fun _ => fun
  | [d1, d2, d3] => { results := [.lit (.bool true)], args := [d1, d2, d3] }
  | _ => none }
def fnCutFieldsTwoCutsMakeOneAcrossATabRow : OpenClaim := { program := "qxb6602847amods", sum := "88a3f16e17a05641f64947dbab91f5436c205687306d79e72ce9c88e3288f473", func := "example.com/gongyun/gongyun/zzlaws_internal_book_b1.FnCutFieldsTwoCutsMakeOneAcrossATab", spec := "fnCutFieldsTwoCutsMakeOneAcrossATab", inPlace := ["internal/bytealg.IndexByteString"], make := .lifted ["publicsums"], apart := false }
def FnCutFieldsTwoCutsMakeOneAcrossATabSaid : Prop := fnCutFieldsTwoCutsMakeOneAcrossATabRow.holds Trym.pinned (OpenSpec.ofChange fnCutFieldsTwoCutsMakeOneAcrossATabSpec)

/-- ITS FALSE NEIGHBOUR: 'it returns false'. Refute it at one input. -/
def fnCutFieldsTwoCutsMakeOneAcrossATabWrong : ChangeSpec := { name := "fnCutFieldsTwoCutsMakeOneAcrossATab", fn := fun _ => fun
  | [d1, d2, d3] => { results := [.lit (.bool false)], args := [d1, d2, d3] }
  | _ => none }
def FnCutFieldsTwoCutsMakeOneAcrossATabWrongFalsely : Prop := fnCutFieldsTwoCutsMakeOneAcrossATabRow.holds Trym.pinned (OpenSpec.ofChange fnCutFieldsTwoCutsMakeOneAcrossATabWrong)

/-- 'zzlaws_internal_book_b1.FnFirstOtherMatchesPaddedLineListModel': WHATEVER THE INPUT: true; the input reads as it did. -/
def fnFirstOtherMatchesPaddedLineListModelSpec : ChangeSpec := { name := "fnFirstOtherMatchesPaddedLineListModel", fn := fun _ => fun
  | [d1, d2] => { results := [.lit (.bool true)], args := [d1, d2] }
  | _ => none }
def fnFirstOtherMatchesPaddedLineListModelRow : OpenClaim := { program := "qxb6602847amods", sum := "88a3f16e17a05641f64947dbab91f5436c205687306d79e72ce9c88e3288f473", func := "example.com/gongyun/gongyun/zzlaws_internal_book_b1.FnFirstOtherMatchesPaddedLineListModel", spec := "fnFirstOtherMatchesPaddedLineListModel", inPlace := ["internal/bytealg.IndexByteString", "internal/bytealg.IndexString"], named := ["internal/bytealg.MaxLen"], make := .lifted ["publicsums"], apart := false }
def FnFirstOtherMatchesPaddedLineListModelSaid : Prop := fnFirstOtherMatchesPaddedLineListModelRow.holds Trym.pinned (OpenSpec.ofChange fnFirstOtherMatchesPaddedLineListModelSpec)

/-- ITS FALSE NEIGHBOUR: 'it returns false'. Refute it at one input. -/
def fnFirstOtherMatchesPaddedLineListModelWrong : ChangeSpec := { name := "fnFirstOtherMatchesPaddedLineListModel", fn := fun _ => fun
  | [d1, d2] => { results := [.lit (.bool false)], args := [d1, d2] }
  | _ => none }
def FnFirstOtherMatchesPaddedLineListModelWrongFalsely : Prop := fnFirstOtherMatchesPaddedLineListModelRow.holds Trym.pinned (OpenSpec.ofChange fnFirstOtherMatchesPaddedLineListModelWrong)

/-- 'zzlaws_internal_book_b1.FnFirstOtherIsSymmetric': WHATEVER THE INPUT: true; the input reads as it did. -/
def fnFirstOtherIsSymmetricSpec : ChangeSpec := { name := "fnFirstOtherIsSymmetric", fn := fun _ => fun
  | [d1, d2] => { results := [.lit (.bool true)], args := [d1, d2] }
  | _ => none }
def fnFirstOtherIsSymmetricRow : OpenClaim := { program := "qxb6602847amods", sum := "88a3f16e17a05641f64947dbab91f5436c205687306d79e72ce9c88e3288f473", func := "example.com/gongyun/gongyun/zzlaws_internal_book_b1.FnFirstOtherIsSymmetric", spec := "fnFirstOtherIsSymmetric", inPlace := ["internal/bytealg.IndexByteString", "internal/bytealg.IndexString"], named := ["internal/bytealg.MaxLen"], make := .lifted ["publicsums"], apart := false }
def FnFirstOtherIsSymmetricSaid : Prop := fnFirstOtherIsSymmetricRow.holds Trym.pinned (OpenSpec.ofChange fnFirstOtherIsSymmetricSpec)

/-- ITS FALSE NEIGHBOUR: 'it returns false'. Refute it at one input. -/
def fnFirstOtherIsSymmetricWrong : ChangeSpec := { name := "fnFirstOtherIsSymmetric", fn := fun _ => fun
  | [d1, d2] => { results := [.lit (.bool false)], args := [d1, d2] }
  | _ => none }
def FnFirstOtherIsSymmetricWrongFalsely : Prop := fnFirstOtherIsSymmetricRow.holds Trym.pinned (OpenSpec.ofChange fnFirstOtherIsSymmetricWrong)

/-- 'zzlaws_internal_book_b1.FnFirstOtherCountsPastASharedHead': WHATEVER THE INPUT: true; the input reads as it did. -/
def fnFirstOtherCountsPastASharedHeadSpec : ChangeSpec := { name := "fnFirstOtherCountsPastASharedHead", fn := fun _ => fun
  | [d1, d2, d3] => { results := [.lit (.bool true)], args := [d1, d2, d3] }
  | _ => none }
def fnFirstOtherCountsPastASharedHeadRow : OpenClaim := { program := "qxb6602847amods", sum := "88a3f16e17a05641f64947dbab91f5436c205687306d79e72ce9c88e3288f473", func := "example.com/gongyun/gongyun/zzlaws_internal_book_b1.FnFirstOtherCountsPastASharedHead", spec := "fnFirstOtherCountsPastASharedHead", inPlace := ["internal/bytealg.IndexByteString", "internal/bytealg.IndexString"], named := ["internal/bytealg.MaxLen"], make := .lifted ["publicsums"], apart := false }
def FnFirstOtherCountsPastASharedHeadSaid : Prop := fnFirstOtherCountsPastASharedHeadRow.holds Trym.pinned (OpenSpec.ofChange fnFirstOtherCountsPastASharedHeadSpec)

/-- ITS FALSE NEIGHBOUR: 'it returns false'. Refute it at one input. -/
def fnFirstOtherCountsPastASharedHeadWrong : ChangeSpec := { name := "fnFirstOtherCountsPastASharedHead", fn := fun _ => fun
  | [d1, d2, d3] => { results := [.lit (.bool false)], args := [d1, d2, d3] }
  | _ => none }
def FnFirstOtherCountsPastASharedHeadWrongFalsely : Prop := fnFirstOtherCountsPastASharedHeadRow.holds Trym.pinned (OpenSpec.ofChange fnFirstOtherCountsPastASharedHeadWrong)

end Rows
end Go.Proofs.Qxb6602847aMods
