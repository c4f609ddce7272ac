/-
  No cell of these rows narrows 'for every input' (looked for: loops, veiled, ifaces, maps, wideKeys, modest, calm, conditions, laid).
  DERIVED. THE GIVEN ROWS OF THIS SEAT. 3 by the template 'for every input the law returns true; each argument reads behind the call as it read before'; 0 by the template 'total and deterministic' (their statements: Qxb6602712aModsTotals.lean).
  GIVEN WITH THE SEED: the statements are not yours to turn. If you find one false, say at which input.
  Laid BY PROGRAM, IN A SANDBOX (cutbox-rows.mjs): the forced cells as the released guide's own fill.sh prints them over the translation 7b77f3e9b8bc876a… (all of the seat's roots in one cut). By AI agents, Wed Nov 11 2026. No macro, syntax, notation, axiom, sorry.
-/
import Derived.Test.Qxb6602712aModsChecked
import GoSem.Claim
import GoSem.ClaimJoined
import GoSem.ClaimMapViews
import Derived.JoinedTies
import Derived.KernelRfl
namespace Go.Proofs.Qxb6602712aMods
/- THE CELL 'sum', in the pinned program and in every row, IS THE sha256 OF THE DUMP (.gsa) THAT Qxb6602712aModsProg.lean LOADS. Nothing in Lean hashes anything: it is a label: what it is worth is what the hold of that sum in a sandbox is worth. -/
noncomputable def Trym.pinned : Pinned := { name := "qxb6602712amods", sum := "7b77f3e9b8bc876aa6072cc6721f46f64740d512644e291ffabe49cd8252bf8e", checked := Trym.checked }
namespace Rows
def none {H : Type} : Left H := { results := [], args := [] }

/-- 'zzlaws_api_b1.FnValueEndMatchesParser': WHATEVER THE INPUT: true; the input reads as it did. -/
def fnValueEndMatchesParserSpec : ChangeSpec := { name := "fnValueEndMatchesParser", fn := fun _ => fun
  | [d1, d2] => { results := [.lit (.bool true)], args := [d1, d2] }
  | _ => none }
def fnValueEndMatchesParserRow : OpenClaim := { program := "qxb6602712amods", sum := "7b77f3e9b8bc876aa6072cc6721f46f64740d512644e291ffabe49cd8252bf8e", func := "example.com/muster/muster/zzlaws_api_b1.FnValueEndMatchesParser", spec := "fnValueEndMatchesParser", inPlace := ["internal/bytealg.IndexByte"], make := .lifted ["publicsums"], apart := false }
def FnValueEndMatchesParserSaid : Prop := fnValueEndMatchesParserRow.holds Trym.pinned (OpenSpec.ofChange fnValueEndMatchesParserSpec)

/-- ITS FALSE NEIGHBOUR: 'it returns false'. Refute it at one input. -/
def fnValueEndMatchesParserWrong : ChangeSpec := { name := "fnValueEndMatchesParser", fn := fun _ => fun
  | [d1, d2] => { results := [.lit (.bool false)], args := [d1, d2] }
  | _ => none }
def FnValueEndMatchesParserWrongFalsely : Prop := fnValueEndMatchesParserRow.holds Trym.pinned (OpenSpec.ofChange fnValueEndMatchesParserWrong)

/-- 'zzlaws_api_b1.FnStringEndMatchesScan': WHATEVER THE INPUT: true; the input reads as it did. -/
def fnStringEndMatchesScanSpec : ChangeSpec := { name := "fnStringEndMatchesScan", fn := fun _ => fun
  | [d1, d2] => { results := [.lit (.bool true)], args := [d1, d2] }
  | _ => none }
def fnStringEndMatchesScanRow : OpenClaim := { program := "qxb6602712amods", sum := "7b77f3e9b8bc876aa6072cc6721f46f64740d512644e291ffabe49cd8252bf8e", func := "example.com/muster/muster/zzlaws_api_b1.FnStringEndMatchesScan", spec := "fnStringEndMatchesScan", inPlace := ["internal/bytealg.IndexByte"], make := .lifted ["publicsums"], apart := false }
def FnStringEndMatchesScanSaid : Prop := fnStringEndMatchesScanRow.holds Trym.pinned (OpenSpec.ofChange fnStringEndMatchesScanSpec)

/-- ITS FALSE NEIGHBOUR: 'it returns false'. Refute it at one input. -/
def fnStringEndMatchesScanWrong : ChangeSpec := { name := "fnStringEndMatchesScan", fn := fun _ => fun
  | [d1, d2] => { results := [.lit (.bool false)], args := [d1, d2] }
  | _ => none }
def FnStringEndMatchesScanWrongFalsely : Prop := fnStringEndMatchesScanRow.holds Trym.pinned (OpenSpec.ofChange fnStringEndMatchesScanWrong)

/-- 'zzlaws_api_b1.FnStringEndShiftAndTail': WHATEVER THE INPUT: true; the input reads as it did. -/
def fnStringEndShiftAndTailSpec : ChangeSpec := { name := "fnStringEndShiftAndTail", fn := fun _ => fun
  | [d1, d2, d3, d4] => { results := [.lit (.bool true)], args := [d1, d2, d3, d4] }
  | _ => none }
def fnStringEndShiftAndTailRow : OpenClaim := { program := "qxb6602712amods", sum := "7b77f3e9b8bc876aa6072cc6721f46f64740d512644e291ffabe49cd8252bf8e", func := "example.com/muster/muster/zzlaws_api_b1.FnStringEndShiftAndTail", spec := "fnStringEndShiftAndTail", inPlace := ["internal/bytealg.IndexByte"], make := .lifted ["publicsums"], apart := false }
def FnStringEndShiftAndTailSaid : Prop := fnStringEndShiftAndTailRow.holds Trym.pinned (OpenSpec.ofChange fnStringEndShiftAndTailSpec)

/-- ITS FALSE NEIGHBOUR: 'it returns false'. Refute it at one input. -/
def fnStringEndShiftAndTailWrong : ChangeSpec := { name := "fnStringEndShiftAndTail", fn := fun _ => fun
  | [d1, d2, d3, d4] => { results := [.lit (.bool false)], args := [d1, d2, d3, d4] }
  | _ => none }
def FnStringEndShiftAndTailWrongFalsely : Prop := fnStringEndShiftAndTailRow.holds Trym.pinned (OpenSpec.ofChange fnStringEndShiftAndTailWrong)

end Rows
end Go.Proofs.Qxb6602712aMods
