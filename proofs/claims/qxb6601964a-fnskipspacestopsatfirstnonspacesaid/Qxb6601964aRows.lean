/-
  No cell of these rows narrows 'for every input' (looked for: loops, veiled, ifaces, maps, wideKeys, modest, calm, conditions, laid).
  DERIVED. THE GIVEN ROWS OF THIS SEAT. 8 by the template 'for every input the law returns true; each argument reads behind the call as it read before'; 0 by the template 'total and deterministic' (their statements: Qxb6601964aTotals.lean).
  GIVEN WITH THE SEED: the statements are not yours to turn. If you find one false, say at which input.
  Laid BY PROGRAM, IN A SANDBOX (cutbox-rows.mjs): the forced cells as the released guide's own fill.sh prints them over the translation 60052c6e9810c309… (all of the seat's roots in one cut). By AI agents, Wed Nov 11 2026. No macro, syntax, notation, axiom, sorry.
-/
import Derived.Test.Qxb6601964aChecked
import GoSem.Claim
import GoSem.ClaimJoined
import GoSem.ClaimMapViews
import Derived.JoinedTies
import Derived.KernelRfl
namespace Go.Proofs.Qxb6601964a
/- THE CELL 'sum', in the pinned program and in every row, IS THE sha256 OF THE DUMP (.gsa) THAT Qxb6601964aProg.lean LOADS. Nothing in Lean hashes anything: it is a label: what it is worth is what the hold of that sum in a sandbox is worth. -/
noncomputable def Try.pinned : Pinned := { name := "qxb6601964a", sum := "60052c6e9810c3091e4e81867030f3014fee4a07a9e5b7f66549bf0a73124be1", checked := Try.checked }
namespace Rows
def none {H : Type} : Left H := { results := [], args := [] }

/-- 'zzlaws_root_b1.FnSkipSpaceStopsAtFirstNonSpace': WHATEVER THE INPUT: true; the input reads as it did. -/
def fnSkipSpaceStopsAtFirstNonSpaceSpec : ChangeSpec := { name := "fnSkipSpaceStopsAtFirstNonSpace", fn := fun _ => fun
  | [d1, d2] => { results := [.lit (.bool true)], args := [d1, d2] }
  | _ => none }
def fnSkipSpaceStopsAtFirstNonSpaceRow : OpenClaim := { program := "qxb6601964a", sum := "60052c6e9810c3091e4e81867030f3014fee4a07a9e5b7f66549bf0a73124be1", func := "example.com/merkleloom/merkleloom/zzlaws_root_b1.FnSkipSpaceStopsAtFirstNonSpace", spec := "fnSkipSpaceStopsAtFirstNonSpace", apart := false }
def FnSkipSpaceStopsAtFirstNonSpaceSaid : Prop := fnSkipSpaceStopsAtFirstNonSpaceRow.holds Try.pinned (OpenSpec.ofChange fnSkipSpaceStopsAtFirstNonSpaceSpec)

/-- ITS FALSE NEIGHBOUR: 'it returns false'. Refute it at one input. -/
def fnSkipSpaceStopsAtFirstNonSpaceWrong : ChangeSpec := { name := "fnSkipSpaceStopsAtFirstNonSpace", fn := fun _ => fun
  | [d1, d2] => { results := [.lit (.bool false)], args := [d1, d2] }
  | _ => none }
def FnSkipSpaceStopsAtFirstNonSpaceWrongFalsely : Prop := fnSkipSpaceStopsAtFirstNonSpaceRow.holds Try.pinned (OpenSpec.ofChange fnSkipSpaceStopsAtFirstNonSpaceWrong)

/-- 'zzlaws_root_b1.FnSkipSpaceIdempotent': WHATEVER THE INPUT: true; the input reads as it did. -/
def fnSkipSpaceIdempotentSpec : ChangeSpec := { name := "fnSkipSpaceIdempotent", fn := fun _ => fun
  | [d1, d2] => { results := [.lit (.bool true)], args := [d1, d2] }
  | _ => none }
def fnSkipSpaceIdempotentRow : OpenClaim := { program := "qxb6601964a", sum := "60052c6e9810c3091e4e81867030f3014fee4a07a9e5b7f66549bf0a73124be1", func := "example.com/merkleloom/merkleloom/zzlaws_root_b1.FnSkipSpaceIdempotent", spec := "fnSkipSpaceIdempotent", apart := false }
def FnSkipSpaceIdempotentSaid : Prop := fnSkipSpaceIdempotentRow.holds Try.pinned (OpenSpec.ofChange fnSkipSpaceIdempotentSpec)

/-- ITS FALSE NEIGHBOUR: 'it returns false'. Refute it at one input. -/
def fnSkipSpaceIdempotentWrong : ChangeSpec := { name := "fnSkipSpaceIdempotent", fn := fun _ => fun
  | [d1, d2] => { results := [.lit (.bool false)], args := [d1, d2] }
  | _ => none }
def FnSkipSpaceIdempotentWrongFalsely : Prop := fnSkipSpaceIdempotentRow.holds Try.pinned (OpenSpec.ofChange fnSkipSpaceIdempotentWrong)

/-- 'zzlaws_root_b1.FnSkipSpaceMonotone': WHATEVER THE INPUT: true; the input reads as it did. -/
def fnSkipSpaceMonotoneSpec : ChangeSpec := { name := "fnSkipSpaceMonotone", fn := fun _ => fun
  | [d1, d2, d3] => { results := [.lit (.bool true)], args := [d1, d2, d3] }
  | _ => none }
def fnSkipSpaceMonotoneRow : OpenClaim := { program := "qxb6601964a", sum := "60052c6e9810c3091e4e81867030f3014fee4a07a9e5b7f66549bf0a73124be1", func := "example.com/merkleloom/merkleloom/zzlaws_root_b1.FnSkipSpaceMonotone", spec := "fnSkipSpaceMonotone", apart := false }
def FnSkipSpaceMonotoneSaid : Prop := fnSkipSpaceMonotoneRow.holds Try.pinned (OpenSpec.ofChange fnSkipSpaceMonotoneSpec)

/-- ITS FALSE NEIGHBOUR: 'it returns false'. Refute it at one input. -/
def fnSkipSpaceMonotoneWrong : ChangeSpec := { name := "fnSkipSpaceMonotone", fn := fun _ => fun
  | [d1, d2, d3] => { results := [.lit (.bool false)], args := [d1, d2, d3] }
  | _ => none }
def FnSkipSpaceMonotoneWrongFalsely : Prop := fnSkipSpaceMonotoneRow.holds Try.pinned (OpenSpec.ofChange fnSkipSpaceMonotoneWrong)

/-- 'zzlaws_root_b1.FnLowerASCIIByTable': WHATEVER THE INPUT: true; the input reads as it did. -/
def fnLowerASCIIByTableSpec : ChangeSpec := { name := "fnLowerASCIIByTable", fn := fun _ => fun
  | [d] => { results := [.lit (.bool true)], args := [d] }
  | _ => none }
def fnLowerASCIIByTableRow : OpenClaim := { program := "qxb6601964a", sum := "60052c6e9810c3091e4e81867030f3014fee4a07a9e5b7f66549bf0a73124be1", func := "example.com/merkleloom/merkleloom/zzlaws_root_b1.FnLowerASCIIByTable", spec := "fnLowerASCIIByTable", apart := false }
def FnLowerASCIIByTableSaid : Prop := fnLowerASCIIByTableRow.holds Try.pinned (OpenSpec.ofChange fnLowerASCIIByTableSpec)

/-- ITS FALSE NEIGHBOUR: 'it returns false'. Refute it at one input. -/
def fnLowerASCIIByTableWrong : ChangeSpec := { name := "fnLowerASCIIByTable", fn := fun _ => fun
  | [d] => { results := [.lit (.bool false)], args := [d] }
  | _ => none }
def FnLowerASCIIByTableWrongFalsely : Prop := fnLowerASCIIByTableRow.holds Try.pinned (OpenSpec.ofChange fnLowerASCIIByTableWrong)

/-- 'zzlaws_root_b1.FnLowerASCIIIdempotent': WHATEVER THE INPUT: true; the input reads as it did. -/
def fnLowerASCIIIdempotentSpec : ChangeSpec := { name := "fnLowerASCIIIdempotent", fn := fun _ => fun
  | [d] => { results := [.lit (.bool true)], args := [d] }
  | _ => none }
def fnLowerASCIIIdempotentRow : OpenClaim := { program := "qxb6601964a", sum := "60052c6e9810c3091e4e81867030f3014fee4a07a9e5b7f66549bf0a73124be1", func := "example.com/merkleloom/merkleloom/zzlaws_root_b1.FnLowerASCIIIdempotent", spec := "fnLowerASCIIIdempotent", apart := false }
def FnLowerASCIIIdempotentSaid : Prop := fnLowerASCIIIdempotentRow.holds Try.pinned (OpenSpec.ofChange fnLowerASCIIIdempotentSpec)

/-- ITS FALSE NEIGHBOUR: 'it returns false'. Refute it at one input. -/
def fnLowerASCIIIdempotentWrong : ChangeSpec := { name := "fnLowerASCIIIdempotent", fn := fun _ => fun
  | [d] => { results := [.lit (.bool false)], args := [d] }
  | _ => none }
def FnLowerASCIIIdempotentWrongFalsely : Prop := fnLowerASCIIIdempotentRow.holds Try.pinned (OpenSpec.ofChange fnLowerASCIIIdempotentWrong)

/-- 'zzlaws_root_b1.FnLowerASCIIConcat': WHATEVER THE INPUT: true; the input reads as it did. -/
def fnLowerASCIIConcatSpec : ChangeSpec := { name := "fnLowerASCIIConcat", fn := fun _ => fun
  | [d1, d2] => { results := [.lit (.bool true)], args := [d1, d2] }
  | _ => none }
def fnLowerASCIIConcatRow : OpenClaim := { program := "qxb6601964a", sum := "60052c6e9810c3091e4e81867030f3014fee4a07a9e5b7f66549bf0a73124be1", func := "example.com/merkleloom/merkleloom/zzlaws_root_b1.FnLowerASCIIConcat", spec := "fnLowerASCIIConcat", apart := false }
def FnLowerASCIIConcatSaid : Prop := fnLowerASCIIConcatRow.holds Try.pinned (OpenSpec.ofChange fnLowerASCIIConcatSpec)

/-- ITS FALSE NEIGHBOUR: 'it returns false'. Refute it at one input. -/
def fnLowerASCIIConcatWrong : ChangeSpec := { name := "fnLowerASCIIConcat", fn := fun _ => fun
  | [d1, d2] => { results := [.lit (.bool false)], args := [d1, d2] }
  | _ => none }
def FnLowerASCIIConcatWrongFalsely : Prop := fnLowerASCIIConcatRow.holds Try.pinned (OpenSpec.ofChange fnLowerASCIIConcatWrong)

/-- 'zzlaws_root_b1.FnNewRadixSpec': WHATEVER THE INPUT: true; the input reads as it did. -/
def fnNewRadixSpecSpec : ChangeSpec := { name := "fnNewRadixSpec", fn := fun _ => fun
  | [d] => { results := [.lit (.bool true)], args := [d] }
  | _ => none }
def fnNewRadixSpecRow : OpenClaim := { program := "qxb6601964a", sum := "60052c6e9810c3091e4e81867030f3014fee4a07a9e5b7f66549bf0a73124be1", func := "example.com/merkleloom/merkleloom/zzlaws_root_b1.FnNewRadixSpec", spec := "fnNewRadixSpec", apart := false }
def FnNewRadixSpecSaid : Prop := fnNewRadixSpecRow.holds Try.pinned (OpenSpec.ofChange fnNewRadixSpecSpec)

/-- ITS FALSE NEIGHBOUR: 'it returns false'. Refute it at one input. -/
def fnNewRadixSpecWrong : ChangeSpec := { name := "fnNewRadixSpec", fn := fun _ => fun
  | [d] => { results := [.lit (.bool false)], args := [d] }
  | _ => none }
def FnNewRadixSpecWrongFalsely : Prop := fnNewRadixSpecRow.holds Try.pinned (OpenSpec.ofChange fnNewRadixSpecWrong)

/-- 'zzlaws_root_b1.FnNewRadixRoundTrip': WHATEVER THE INPUT: true; the input reads as it did. -/
def fnNewRadixRoundTripSpec : ChangeSpec := { name := "fnNewRadixRoundTrip", fn := fun _ => fun
  | [d] => { results := [.lit (.bool true)], args := [d] }
  | _ => none }
def fnNewRadixRoundTripRow : OpenClaim := { program := "qxb6601964a", sum := "60052c6e9810c3091e4e81867030f3014fee4a07a9e5b7f66549bf0a73124be1", func := "example.com/merkleloom/merkleloom/zzlaws_root_b1.FnNewRadixRoundTrip", spec := "fnNewRadixRoundTrip", apart := false }
def FnNewRadixRoundTripSaid : Prop := fnNewRadixRoundTripRow.holds Try.pinned (OpenSpec.ofChange fnNewRadixRoundTripSpec)

/-- ITS FALSE NEIGHBOUR: 'it returns false'. Refute it at one input. -/
def fnNewRadixRoundTripWrong : ChangeSpec := { name := "fnNewRadixRoundTrip", fn := fun _ => fun
  | [d] => { results := [.lit (.bool false)], args := [d] }
  | _ => none }
def FnNewRadixRoundTripWrongFalsely : Prop := fnNewRadixRoundTripRow.holds Try.pinned (OpenSpec.ofChange fnNewRadixRoundTripWrong)

end Rows
end Go.Proofs.Qxb6601964a
