/-
  No cell of these rows narrows 'for every input' (looked for: loops, veiled, ifaces, maps, wideKeys, modest, calm, conditions, laid).
  DERIVED. THE GIVEN ROWS OF THIS SEAT. 6 by the template 'for every input the law returns true; each argument reads behind the call as it read before'; 0 by the template 'total and deterministic' (their statements: Qxb6000089aTotals.lean).
  GIVEN WITH THE SEED: the statements are not yours to turn. If you find one false, say at which input.
  Laid BY PROGRAM, IN A SANDBOX (cutbox-rows.mjs): the forced cells as the released guide's own fill.sh prints them over the translation eed50bef076f1de2… (all of the seat's roots in one cut). By AI agents, Wed Nov 11 2026. No macro, syntax, notation, axiom, sorry.
-/
import Derived.Test.Qxb6000089aChecked
import GoSem.Claim
import GoSem.ClaimJoined
import GoSem.ClaimMapViews
import Derived.JoinedTies
import Derived.KernelRfl
namespace Go.Proofs.Qxb6000089a
/- THE CELL 'sum', in the pinned program and in every row, IS THE sha256 OF THE DUMP (.gsa) THAT Qxb6000089aProg.lean LOADS. Nothing in Lean hashes anything: it is a label: what it is worth is what the hold of that sum in a sandbox is worth. -/
noncomputable def Try.pinned : Pinned := { name := "qxb6000089a", sum := "eed50bef076f1de2627976351be5d599ff49006ec727833fc768ebb941890c9a", checked := Try.checked }
namespace Rows
def none {H : Type} : Left H := { results := [], args := [] }

/-- 'zzlaws_jsonwalk_b1.FnStringEndMatchesForwardScan': WHATEVER THE INPUT: true; the input reads as it did. -/
def fnStringEndMatchesForwardScanSpec : ChangeSpec := { name := "fnStringEndMatchesForwardScan", fn := fun _ => fun
  | [d1, d2] => { results := [.lit (.bool true)], args := [d1, d2] }
  | _ => none }
def fnStringEndMatchesForwardScanRow : OpenClaim := { program := "qxb6000089a", sum := "eed50bef076f1de2627976351be5d599ff49006ec727833fc768ebb941890c9a", func := "example.com/glot2/glot2/zzlaws_jsonwalk_b1.FnStringEndMatchesForwardScan", spec := "fnStringEndMatchesForwardScan", inPlace := ["internal/bytealg.IndexByte"], apart := false }
def FnStringEndMatchesForwardScanSaid : Prop := fnStringEndMatchesForwardScanRow.holds Try.pinned (OpenSpec.ofChange fnStringEndMatchesForwardScanSpec)

/-- ITS FALSE NEIGHBOUR: 'it returns false'. Refute it at one input. -/
def fnStringEndMatchesForwardScanWrong : ChangeSpec := { name := "fnStringEndMatchesForwardScan", fn := fun _ => fun
  | [d1, d2] => { results := [.lit (.bool false)], args := [d1, d2] }
  | _ => none }
def FnStringEndMatchesForwardScanWrongFalsely : Prop := fnStringEndMatchesForwardScanRow.holds Try.pinned (OpenSpec.ofChange fnStringEndMatchesForwardScanWrong)

/-- 'zzlaws_jsonwalk_b1.FnStringEndIgnoresTail': WHATEVER THE INPUT: true; the input reads as it did. -/
def fnStringEndIgnoresTailSpec : ChangeSpec := { name := "fnStringEndIgnoresTail", fn := fun _ => fun
  | [d1, d2, d3] => { results := [.lit (.bool true)], args := [d1, d2, d3] }
  | _ => none }
def fnStringEndIgnoresTailRow : OpenClaim := { program := "qxb6000089a", sum := "eed50bef076f1de2627976351be5d599ff49006ec727833fc768ebb941890c9a", func := "example.com/glot2/glot2/zzlaws_jsonwalk_b1.FnStringEndIgnoresTail", spec := "fnStringEndIgnoresTail", inPlace := ["internal/bytealg.IndexByte"], apart := false }
def FnStringEndIgnoresTailSaid : Prop := fnStringEndIgnoresTailRow.holds Try.pinned (OpenSpec.ofChange fnStringEndIgnoresTailSpec)

/-- ITS FALSE NEIGHBOUR: 'it returns false'. Refute it at one input. -/
def fnStringEndIgnoresTailWrong : ChangeSpec := { name := "fnStringEndIgnoresTail", fn := fun _ => fun
  | [d1, d2, d3] => { results := [.lit (.bool false)], args := [d1, d2, d3] }
  | _ => none }
def FnStringEndIgnoresTailWrongFalsely : Prop := fnStringEndIgnoresTailRow.holds Try.pinned (OpenSpec.ofChange fnStringEndIgnoresTailWrong)

/-- 'zzlaws_jsonwalk_b1.FnNextSkipsWhitespace': WHATEVER THE INPUT: true; the input reads as it did. -/
def fnNextSkipsWhitespaceSpec : ChangeSpec := { name := "fnNextSkipsWhitespace", fn := fun _ => fun
  | [d1, d2, d3] => { results := [.lit (.bool true)], args := [d1, d2, d3] }
  | _ => none }
def fnNextSkipsWhitespaceRow : OpenClaim := { program := "qxb6000089a", sum := "eed50bef076f1de2627976351be5d599ff49006ec727833fc768ebb941890c9a", func := "example.com/glot2/glot2/zzlaws_jsonwalk_b1.FnNextSkipsWhitespace", spec := "fnNextSkipsWhitespace", apart := false }
def FnNextSkipsWhitespaceSaid : Prop := fnNextSkipsWhitespaceRow.holds Try.pinned (OpenSpec.ofChange fnNextSkipsWhitespaceSpec)

/-- ITS FALSE NEIGHBOUR: 'it returns false'. Refute it at one input. -/
def fnNextSkipsWhitespaceWrong : ChangeSpec := { name := "fnNextSkipsWhitespace", fn := fun _ => fun
  | [d1, d2, d3] => { results := [.lit (.bool false)], args := [d1, d2, d3] }
  | _ => none }
def FnNextSkipsWhitespaceWrongFalsely : Prop := fnNextSkipsWhitespaceRow.holds Try.pinned (OpenSpec.ofChange fnNextSkipsWhitespaceWrong)

/-- 'zzlaws_jsonwalk_b1.FnNextIdempotent': WHATEVER THE INPUT: true; the input reads as it did. -/
def fnNextIdempotentSpec : ChangeSpec := { name := "fnNextIdempotent", fn := fun _ => fun
  | [d1, d2, d3] => { results := [.lit (.bool true)], args := [d1, d2, d3] }
  | _ => none }
def fnNextIdempotentRow : OpenClaim := { program := "qxb6000089a", sum := "eed50bef076f1de2627976351be5d599ff49006ec727833fc768ebb941890c9a", func := "example.com/glot2/glot2/zzlaws_jsonwalk_b1.FnNextIdempotent", spec := "fnNextIdempotent", apart := false }
def FnNextIdempotentSaid : Prop := fnNextIdempotentRow.holds Try.pinned (OpenSpec.ofChange fnNextIdempotentSpec)

/-- ITS FALSE NEIGHBOUR: 'it returns false'. Refute it at one input. -/
def fnNextIdempotentWrong : ChangeSpec := { name := "fnNextIdempotent", fn := fun _ => fun
  | [d1, d2, d3] => { results := [.lit (.bool false)], args := [d1, d2, d3] }
  | _ => none }
def FnNextIdempotentWrongFalsely : Prop := fnNextIdempotentRow.holds Try.pinned (OpenSpec.ofChange fnNextIdempotentWrong)

/-- 'zzlaws_jsonwalk_b1.FnValueMatchesScanner': WHATEVER THE INPUT: true; the input reads as it did. -/
def fnValueMatchesScannerSpec : ChangeSpec := { name := "fnValueMatchesScanner", fn := fun _ => fun
  | [d1, d2, d3] => { results := [.lit (.bool true)], args := [d1, d2, d3] }
  | _ => none }
def fnValueMatchesScannerRow : OpenClaim := { program := "qxb6000089a", sum := "eed50bef076f1de2627976351be5d599ff49006ec727833fc768ebb941890c9a", func := "example.com/glot2/glot2/zzlaws_jsonwalk_b1.FnValueMatchesScanner", spec := "fnValueMatchesScanner", inPlace := ["internal/bytealg.IndexByte"], apart := false }
def FnValueMatchesScannerSaid : Prop := fnValueMatchesScannerRow.holds Try.pinned (OpenSpec.ofChange fnValueMatchesScannerSpec)

/-- ITS FALSE NEIGHBOUR: 'it returns false'. Refute it at one input. -/
def fnValueMatchesScannerWrong : ChangeSpec := { name := "fnValueMatchesScanner", fn := fun _ => fun
  | [d1, d2, d3] => { results := [.lit (.bool false)], args := [d1, d2, d3] }
  | _ => none }
def FnValueMatchesScannerWrongFalsely : Prop := fnValueMatchesScannerRow.holds Try.pinned (OpenSpec.ofChange fnValueMatchesScannerWrong)

/-- 'zzlaws_jsonwalk_b1.FnValueIgnoresWhatFollows': WHATEVER THE INPUT: true; the input reads as it did. -/
def fnValueIgnoresWhatFollowsSpec : ChangeSpec := { name := "fnValueIgnoresWhatFollows", fn := fun _ => fun
  | [d1, d2, d3] => { results := [.lit (.bool true)], args := [d1, d2, d3] }
  | _ => none }
def fnValueIgnoresWhatFollowsRow : OpenClaim := { program := "qxb6000089a", sum := "eed50bef076f1de2627976351be5d599ff49006ec727833fc768ebb941890c9a", func := "example.com/glot2/glot2/zzlaws_jsonwalk_b1.FnValueIgnoresWhatFollows", spec := "fnValueIgnoresWhatFollows", inPlace := ["internal/bytealg.IndexByte"], apart := false }
def FnValueIgnoresWhatFollowsSaid : Prop := fnValueIgnoresWhatFollowsRow.holds Try.pinned (OpenSpec.ofChange fnValueIgnoresWhatFollowsSpec)

/-- ITS FALSE NEIGHBOUR: 'it returns false'. Refute it at one input. -/
def fnValueIgnoresWhatFollowsWrong : ChangeSpec := { name := "fnValueIgnoresWhatFollows", fn := fun _ => fun
  | [d1, d2, d3] => { results := [.lit (.bool false)], args := [d1, d2, d3] }
  | _ => none }
def FnValueIgnoresWhatFollowsWrongFalsely : Prop := fnValueIgnoresWhatFollowsRow.holds Try.pinned (OpenSpec.ofChange fnValueIgnoresWhatFollowsWrong)

end Rows
end Go.Proofs.Qxb6000089a
