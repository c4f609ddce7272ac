/-
  No cell of these rows narrows 'for every input' (looked for: loops, veiled, ifaces, maps, wideKeys, modest, calm, conditions, laid).
  DERIVED. THE GIVEN ROWS OF THIS SEAT. 5 by the template 'for every input the law returns true; each argument reads behind the call as it read before'; 0 by the template 'total and deterministic' (their statements: Qxb6601167aModsTotals.lean).
  GIVEN WITH THE SEED: the statements are not yours to turn. If you find one false, say at which input.
  Laid BY PROGRAM, IN A SANDBOX (cutbox-rows.mjs): the forced cells as the released guide's own fill.sh prints them over the translation 8b2503d1d699852e… (all of the seat's roots in one cut). By AI agents, Wed Nov 11 2026. No macro, syntax, notation, axiom, sorry.
-/
import Derived.Test.Qxb6601167aModsChecked
import GoSem.Claim
import GoSem.ClaimJoined
import GoSem.ClaimMapViews
import Derived.JoinedTies
import Derived.KernelRfl
namespace Go.Proofs.Qxb6601167aMods
/- THE CELL 'sum', in the pinned program and in every row, IS THE sha256 OF THE DUMP (.gsa) THAT Qxb6601167aModsProg.lean LOADS. Nothing in Lean hashes anything: it is a label: what it is worth is what the hold of that sum in a sandbox is worth. -/
noncomputable def Trym.pinned : Pinned := { name := "qxb6601167amods", sum := "8b2503d1d699852eed73b48656e0a90d6414804672dfc500c390a0a60f53762d", checked := Trym.checked }
namespace Rows
def none {H : Type} : Left H := { results := [], args := [] }

/-- 'zzlaws_pkg_proxy_b1.FnStringEndMatchesByteScan': WHATEVER THE INPUT: true; the input reads as it did. -/
def fnStringEndMatchesByteScanSpec : ChangeSpec := { name := "fnStringEndMatchesByteScan", fn := fun _ => fun
  | [d1, d2] => { results := [.lit (.bool true)], args := [d1, d2] }
  | _ => none }
def fnStringEndMatchesByteScanRow : OpenClaim := { program := "qxb6601167amods", sum := "8b2503d1d699852eed73b48656e0a90d6414804672dfc500c390a0a60f53762d", func := "example.com/mission-street/mission-street/zzlaws_pkg_proxy_b1.FnStringEndMatchesByteScan", spec := "fnStringEndMatchesByteScan", inPlace := ["internal/bytealg.IndexByte"], make := .lifted ["publicsums"], apart := false }
def FnStringEndMatchesByteScanSaid : Prop := fnStringEndMatchesByteScanRow.holds Trym.pinned (OpenSpec.ofChange fnStringEndMatchesByteScanSpec)

/-- ITS FALSE NEIGHBOUR: 'it returns false'. Refute it at one input. -/
def fnStringEndMatchesByteScanWrong : ChangeSpec := { name := "fnStringEndMatchesByteScan", fn := fun _ => fun
  | [d1, d2] => { results := [.lit (.bool false)], args := [d1, d2] }
  | _ => none }
def FnStringEndMatchesByteScanWrongFalsely : Prop := fnStringEndMatchesByteScanRow.holds Trym.pinned (OpenSpec.ofChange fnStringEndMatchesByteScanWrong)

/-- 'zzlaws_pkg_proxy_b1.FnStringEndPiecewiseAgreesWithWhole': WHATEVER THE INPUT: true; the input reads as it did. -/
def fnStringEndPiecewiseAgreesWithWholeSpec : ChangeSpec := { name := "fnStringEndPiecewiseAgreesWithWhole", fn := fun _ => fun
  | [d1, d2, d3] => { results := [.lit (.bool true)], args := [d1, d2, d3] }
  | _ => none }
def fnStringEndPiecewiseAgreesWithWholeRow : OpenClaim := { program := "qxb6601167amods", sum := "8b2503d1d699852eed73b48656e0a90d6414804672dfc500c390a0a60f53762d", func := "example.com/mission-street/mission-street/zzlaws_pkg_proxy_b1.FnStringEndPiecewiseAgreesWithWhole", spec := "fnStringEndPiecewiseAgreesWithWhole", inPlace := ["internal/bytealg.IndexByte"], make := .lifted ["publicsums"], apart := false }
def FnStringEndPiecewiseAgreesWithWholeSaid : Prop := fnStringEndPiecewiseAgreesWithWholeRow.holds Trym.pinned (OpenSpec.ofChange fnStringEndPiecewiseAgreesWithWholeSpec)

/-- ITS FALSE NEIGHBOUR: 'it returns false'. Refute it at one input. -/
def fnStringEndPiecewiseAgreesWithWholeWrong : ChangeSpec := { name := "fnStringEndPiecewiseAgreesWithWhole", fn := fun _ => fun
  | [d1, d2, d3] => { results := [.lit (.bool false)], args := [d1, d2, d3] }
  | _ => none }
def FnStringEndPiecewiseAgreesWithWholeWrongFalsely : Prop := fnStringEndPiecewiseAgreesWithWholeRow.holds Trym.pinned (OpenSpec.ofChange fnStringEndPiecewiseAgreesWithWholeWrong)

/-- 'zzlaws_pkg_proxy_b1.FnSkipNestedMatchesByteScan': WHATEVER THE INPUT: true; the input reads as it did. -/
def fnSkipNestedMatchesByteScanSpec : ChangeSpec := { name := "fnSkipNestedMatchesByteScan", fn := fun _ => fun
  | [d1, d2, d3, d4] => { results := [.lit (.bool true)], args := [d1, d2, d3, d4] }
  | _ => none }
def fnSkipNestedMatchesByteScanRow : OpenClaim := { program := "qxb6601167amods", sum := "8b2503d1d699852eed73b48656e0a90d6414804672dfc500c390a0a60f53762d", func := "example.com/mission-street/mission-street/zzlaws_pkg_proxy_b1.FnSkipNestedMatchesByteScan", spec := "fnSkipNestedMatchesByteScan", inPlace := ["internal/bytealg.IndexByte"], make := .lifted ["publicsums"], apart := false }
def FnSkipNestedMatchesByteScanSaid : Prop := fnSkipNestedMatchesByteScanRow.holds Trym.pinned (OpenSpec.ofChange fnSkipNestedMatchesByteScanSpec)

/-- ITS FALSE NEIGHBOUR: 'it returns false'. Refute it at one input. -/
def fnSkipNestedMatchesByteScanWrong : ChangeSpec := { name := "fnSkipNestedMatchesByteScan", fn := fun _ => fun
  | [d1, d2, d3, d4] => { results := [.lit (.bool false)], args := [d1, d2, d3, d4] }
  | _ => none }
def FnSkipNestedMatchesByteScanWrongFalsely : Prop := fnSkipNestedMatchesByteScanRow.holds Trym.pinned (OpenSpec.ofChange fnSkipNestedMatchesByteScanWrong)

/-- 'zzlaws_pkg_proxy_b1.FnSkipNestedPiecewiseAgreesWithWhole': WHATEVER THE INPUT: true; the input reads as it did. -/
def fnSkipNestedPiecewiseAgreesWithWholeSpec : ChangeSpec := { name := "fnSkipNestedPiecewiseAgreesWithWhole", fn := fun _ => fun
  | [d1, d2, d3, d4, d5] => { results := [.lit (.bool true)], args := [d1, d2, d3, d4, d5] }
  | _ => none }
def fnSkipNestedPiecewiseAgreesWithWholeRow : OpenClaim := { program := "qxb6601167amods", sum := "8b2503d1d699852eed73b48656e0a90d6414804672dfc500c390a0a60f53762d", func := "example.com/mission-street/mission-street/zzlaws_pkg_proxy_b1.FnSkipNestedPiecewiseAgreesWithWhole", spec := "fnSkipNestedPiecewiseAgreesWithWhole", inPlace := ["internal/bytealg.IndexByte"], make := .lifted ["publicsums"], apart := false }
def FnSkipNestedPiecewiseAgreesWithWholeSaid : Prop := fnSkipNestedPiecewiseAgreesWithWholeRow.holds Trym.pinned (OpenSpec.ofChange fnSkipNestedPiecewiseAgreesWithWholeSpec)

/-- ITS FALSE NEIGHBOUR: 'it returns false'. Refute it at one input. -/
def fnSkipNestedPiecewiseAgreesWithWholeWrong : ChangeSpec := { name := "fnSkipNestedPiecewiseAgreesWithWhole", fn := fun _ => fun
  | [d1, d2, d3, d4, d5] => { results := [.lit (.bool false)], args := [d1, d2, d3, d4, d5] }
  | _ => none }
def FnSkipNestedPiecewiseAgreesWithWholeWrongFalsely : Prop := fnSkipNestedPiecewiseAgreesWithWholeRow.holds Trym.pinned (OpenSpec.ofChange fnSkipNestedPiecewiseAgreesWithWholeWrong)

/-- 'zzlaws_pkg_proxy_b1.FnEndTwiceGivesEmptyObject': WHATEVER THE INPUT: true; the input reads as it did. -/
def fnEndTwiceGivesEmptyObjectSpec : ChangeSpec := { name := "fnEndTwiceGivesEmptyObject", fn := fun _ => fun
  | [d1, d2, d3, d4, d5, d6, d7, d8] => { results := [.lit (.bool true)], args := [d1, d2, d3, d4, d5, d6, d7, d8] }
  | _ => none }
def fnEndTwiceGivesEmptyObjectRow : OpenClaim := { program := "qxb6601167amods", sum := "8b2503d1d699852eed73b48656e0a90d6414804672dfc500c390a0a60f53762d", func := "example.com/mission-street/mission-street/zzlaws_pkg_proxy_b1.FnEndTwiceGivesEmptyObject", spec := "fnEndTwiceGivesEmptyObject", make := .lifted ["publicsums"], apart := false }
def FnEndTwiceGivesEmptyObjectSaid : Prop := fnEndTwiceGivesEmptyObjectRow.holds Trym.pinned (OpenSpec.ofChange fnEndTwiceGivesEmptyObjectSpec)

/-- ITS FALSE NEIGHBOUR: 'it returns false'. Refute it at one input. -/
def fnEndTwiceGivesEmptyObjectWrong : ChangeSpec := { name := "fnEndTwiceGivesEmptyObject", fn := fun _ => fun
  | [d1, d2, d3, d4, d5, d6, d7, d8] => { results := [.lit (.bool false)], args := [d1, d2, d3, d4, d5, d6, d7, d8] }
  | _ => none }
def FnEndTwiceGivesEmptyObjectWrongFalsely : Prop := fnEndTwiceGivesEmptyObjectRow.holds Trym.pinned (OpenSpec.ofChange fnEndTwiceGivesEmptyObjectWrong)

end Rows
end Go.Proofs.Qxb6601167aMods
