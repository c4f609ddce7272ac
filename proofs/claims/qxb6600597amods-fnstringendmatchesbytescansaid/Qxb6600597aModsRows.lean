/-
  No cell of these rows narrows 'for every input' (looked for: loops, veiled, ifaces, maps, wideKeys, modest, calm, conditions, laid).
  DERIVED. THE GIVEN ROWS OF THIS SEAT. 3 by the template 'for every input the law returns true; each argument reads behind the call as it read before'; 0 by the template 'total and deterministic' (their statements: Qxb6600597aModsTotals.lean).
  GIVEN WITH THE SEED: the statements are not yours to turn. If you find one false, say at which input.
  Laid BY PROGRAM, IN A SANDBOX (cutbox-rows.mjs): the forced cells as the released guide's own fill.sh prints them over the translation 1585460bb4057f21… (all of the seat's roots in one cut). By AI agents, Wed Nov 11 2026. No macro, syntax, notation, axiom, sorry.
-/
import Derived.Test.Qxb6600597aModsChecked
import GoSem.Claim
import GoSem.ClaimJoined
import GoSem.ClaimMapViews
import Derived.JoinedTies
import Derived.KernelRfl
namespace Go.Proofs.Qxb6600597aMods
/- THE CELL 'sum', in the pinned program and in every row, IS THE sha256 OF THE DUMP (.gsa) THAT Qxb6600597aModsProg.lean LOADS. Nothing in Lean hashes anything: it is a label: what it is worth is what the hold of that sum in a sandbox is worth. -/
noncomputable def Trym.pinned : Pinned := { name := "qxb6600597amods", sum := "1585460bb4057f21028bff852bf1d9abdc003cd1b476d8e731b489650bd59180", checked := Trym.checked }
namespace Rows
def none {H : Type} : Left H := { results := [], args := [] }

/-- 'zzlaws_input_b1.FnStringEndMatchesByteScan': WHATEVER THE INPUT: true; the input reads as it did. -/
def fnStringEndMatchesByteScanSpec : ChangeSpec := { name := "fnStringEndMatchesByteScan", fn := fun _ => fun
  | [d1, d2] => { results := [.lit (.bool true)], args := [d1, d2] }
  | _ => none }
def fnStringEndMatchesByteScanRow : OpenClaim := { program := "qxb6600597amods", sum := "1585460bb4057f21028bff852bf1d9abdc003cd1b476d8e731b489650bd59180", func := "example.com/berth/berth/zzlaws_input_b1.FnStringEndMatchesByteScan", spec := "fnStringEndMatchesByteScan", inPlace := ["internal/bytealg.IndexByte"], make := .lifted ["publicsums"], apart := false }
def FnStringEndMatchesByteScanSaid : Prop := fnStringEndMatchesByteScanRow.holds Trym.pinned (OpenSpec.ofChange fnStringEndMatchesByteScanSpec)

/-- ITS FALSE NEIGHBOUR: 'it returns false'. Refute it at one input. -/
def fnStringEndMatchesByteScanWrong : ChangeSpec := { name := "fnStringEndMatchesByteScan", fn := fun _ => fun
  | [d1, d2] => { results := [.lit (.bool false)], args := [d1, d2] }
  | _ => none }
def FnStringEndMatchesByteScanWrongFalsely : Prop := fnStringEndMatchesByteScanRow.holds Trym.pinned (OpenSpec.ofChange fnStringEndMatchesByteScanWrong)

/-- 'zzlaws_input_b1.FnStringEndClosesOnUnescapedQuote': WHATEVER THE INPUT: true; the input reads as it did. -/
def fnStringEndClosesOnUnescapedQuoteSpec : ChangeSpec := { name := "fnStringEndClosesOnUnescapedQuote", fn := fun _ => fun
  | [d1, d2] => { results := [.lit (.bool true)], args := [d1, d2] }
  | _ => none }
def fnStringEndClosesOnUnescapedQuoteRow : OpenClaim := { program := "qxb6600597amods", sum := "1585460bb4057f21028bff852bf1d9abdc003cd1b476d8e731b489650bd59180", func := "example.com/berth/berth/zzlaws_input_b1.FnStringEndClosesOnUnescapedQuote", spec := "fnStringEndClosesOnUnescapedQuote", inPlace := ["internal/bytealg.IndexByte"], make := .lifted ["publicsums"], apart := false }
def FnStringEndClosesOnUnescapedQuoteSaid : Prop := fnStringEndClosesOnUnescapedQuoteRow.holds Trym.pinned (OpenSpec.ofChange fnStringEndClosesOnUnescapedQuoteSpec)

/-- ITS FALSE NEIGHBOUR: 'it returns false'. Refute it at one input. -/
def fnStringEndClosesOnUnescapedQuoteWrong : ChangeSpec := { name := "fnStringEndClosesOnUnescapedQuote", fn := fun _ => fun
  | [d1, d2] => { results := [.lit (.bool false)], args := [d1, d2] }
  | _ => none }
def FnStringEndClosesOnUnescapedQuoteWrongFalsely : Prop := fnStringEndClosesOnUnescapedQuoteRow.holds Trym.pinned (OpenSpec.ofChange fnStringEndClosesOnUnescapedQuoteWrong)

/-- 'zzlaws_input_b1.FnStringEndDecidedByPrefix': WHATEVER THE INPUT: true; the input reads as it did. -/
def fnStringEndDecidedByPrefixSpec : ChangeSpec := { name := "fnStringEndDecidedByPrefix", fn := fun _ => fun
  | [d1, d2, d3] => { results := [.lit (.bool true)], args := [d1, d2, d3] }
  | _ => none }
def fnStringEndDecidedByPrefixRow : OpenClaim := { program := "qxb6600597amods", sum := "1585460bb4057f21028bff852bf1d9abdc003cd1b476d8e731b489650bd59180", func := "example.com/berth/berth/zzlaws_input_b1.FnStringEndDecidedByPrefix", spec := "fnStringEndDecidedByPrefix", inPlace := ["internal/bytealg.IndexByte"], make := .lifted ["publicsums"], apart := false }
def FnStringEndDecidedByPrefixSaid : Prop := fnStringEndDecidedByPrefixRow.holds Trym.pinned (OpenSpec.ofChange fnStringEndDecidedByPrefixSpec)

/-- ITS FALSE NEIGHBOUR: 'it returns false'. Refute it at one input. -/
def fnStringEndDecidedByPrefixWrong : ChangeSpec := { name := "fnStringEndDecidedByPrefix", fn := fun _ => fun
  | [d1, d2, d3] => { results := [.lit (.bool false)], args := [d1, d2, d3] }
  | _ => none }
def FnStringEndDecidedByPrefixWrongFalsely : Prop := fnStringEndDecidedByPrefixRow.holds Trym.pinned (OpenSpec.ofChange fnStringEndDecidedByPrefixWrong)

end Rows
end Go.Proofs.Qxb6600597aMods
