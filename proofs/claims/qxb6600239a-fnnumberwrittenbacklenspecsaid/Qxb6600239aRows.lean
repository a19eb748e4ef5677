/-
  No cell of these rows narrows 'for every input' (looked for: loops, veiled, ifaces, maps, wideKeys, modest, calm, conditions, laid).
  DERIVED. THE GIVEN ROWS OF THIS SEAT. 7 by the template 'for every input the law returns true; each argument reads behind the call as it read before'; 0 by the template 'total and deterministic' (their statements: Qxb6600239aTotals.lean).
  GIVEN WITH THE SEED: the statements are not yours to turn. If you find one false, say at which input.
  Laid BY PROGRAM, IN A SANDBOX (cutbox-rows.mjs): the forced cells as the released guide's own fill.sh prints them over the translation 980a88bed07e8dbb… (all of the seat's roots in one cut). By AI agents, Wed Nov 11 2026. No macro, syntax, notation, axiom, sorry.
-/
import Derived.Test.Qxb6600239aChecked
import GoSem.Claim
import GoSem.ClaimJoined
import GoSem.ClaimMapViews
import Derived.JoinedTies
import Derived.KernelRfl
namespace Go.Proofs.Qxb6600239a
/- THE CELL 'sum', in the pinned program and in every row, IS THE sha256 OF THE DUMP (.gsa) THAT Qxb6600239aProg.lean LOADS. Nothing in Lean hashes anything: it is a label: what it is worth is what the hold of that sum in a sandbox is worth. -/
noncomputable def Try.pinned : Pinned := { name := "qxb6600239a", sum := "980a88bed07e8dbb625da7f322040777db4d367e4eae7c7c3b9341c2766b1a9d", checked := Try.checked }
namespace Rows
def none {H : Type} : Left H := { results := [], args := [] }

/-- 'zzlaws_internal_pgstore_b1.FnHexRuneRoundTrip': WHATEVER THE INPUT: true; the input reads as it did. -/
def fnHexRuneRoundTripSpec : ChangeSpec := { name := "fnHexRuneRoundTrip", fn := fun _ => fun
  | [d1, d2, d3, d4] => { results := [.lit (.bool true)], args := [d1, d2, d3, d4] }
  | _ => none }
def fnHexRuneRoundTripRow : OpenClaim := { program := "qxb6600239a", sum := "980a88bed07e8dbb625da7f322040777db4d367e4eae7c7c3b9341c2766b1a9d", func := "example.com/rollforward/rollforward/zzlaws_internal_pgstore_b1.FnHexRuneRoundTrip", spec := "fnHexRuneRoundTrip", apart := false }
def FnHexRuneRoundTripSaid : Prop := fnHexRuneRoundTripRow.holds Try.pinned (OpenSpec.ofChange fnHexRuneRoundTripSpec)

/-- ITS FALSE NEIGHBOUR: 'it returns false'. Refute it at one input. -/
def fnHexRuneRoundTripWrong : ChangeSpec := { name := "fnHexRuneRoundTrip", fn := fun _ => fun
  | [d1, d2, d3, d4] => { results := [.lit (.bool false)], args := [d1, d2, d3, d4] }
  | _ => none }
def FnHexRuneRoundTripWrongFalsely : Prop := fnHexRuneRoundTripRow.holds Try.pinned (OpenSpec.ofChange fnHexRuneRoundTripWrong)

/-- 'zzlaws_internal_pgstore_b1.FnEscapeWrittenBackLenSpec': WHATEVER THE INPUT: true; the input reads as it did. -/
def fnEscapeWrittenBackLenSpecSpec : ChangeSpec := { name := "fnEscapeWrittenBackLenSpec", fn := fun _ => fun
  | [d1, d2] => { results := [.lit (.bool true)], args := [d1, d2] }
  | _ => none }
def fnEscapeWrittenBackLenSpecRow : OpenClaim := { program := "qxb6600239a", sum := "980a88bed07e8dbb625da7f322040777db4d367e4eae7c7c3b9341c2766b1a9d", func := "example.com/rollforward/rollforward/zzlaws_internal_pgstore_b1.FnEscapeWrittenBackLenSpec", spec := "fnEscapeWrittenBackLenSpec", apart := false }
def FnEscapeWrittenBackLenSpecSaid : Prop := fnEscapeWrittenBackLenSpecRow.holds Try.pinned (OpenSpec.ofChange fnEscapeWrittenBackLenSpecSpec)

/-- ITS FALSE NEIGHBOUR: 'it returns false'. Refute it at one input. -/
def fnEscapeWrittenBackLenSpecWrong : ChangeSpec := { name := "fnEscapeWrittenBackLenSpec", fn := fun _ => fun
  | [d1, d2] => { results := [.lit (.bool false)], args := [d1, d2] }
  | _ => none }
def FnEscapeWrittenBackLenSpecWrongFalsely : Prop := fnEscapeWrittenBackLenSpecRow.holds Try.pinned (OpenSpec.ofChange fnEscapeWrittenBackLenSpecWrong)

/-- 'zzlaws_internal_pgstore_b1.FnEscapeWrittenBackLenNeverLonger': WHATEVER THE INPUT: true; the input reads as it did. -/
def fnEscapeWrittenBackLenNeverLongerSpec : ChangeSpec := { name := "fnEscapeWrittenBackLenNeverLonger", fn := fun _ => fun
  | [d1, d2] => { results := [.lit (.bool true)], args := [d1, d2] }
  | _ => none }
def fnEscapeWrittenBackLenNeverLongerRow : OpenClaim := { program := "qxb6600239a", sum := "980a88bed07e8dbb625da7f322040777db4d367e4eae7c7c3b9341c2766b1a9d", func := "example.com/rollforward/rollforward/zzlaws_internal_pgstore_b1.FnEscapeWrittenBackLenNeverLonger", spec := "fnEscapeWrittenBackLenNeverLonger", apart := false }
def FnEscapeWrittenBackLenNeverLongerSaid : Prop := fnEscapeWrittenBackLenNeverLongerRow.holds Try.pinned (OpenSpec.ofChange fnEscapeWrittenBackLenNeverLongerSpec)

/-- ITS FALSE NEIGHBOUR: 'it returns false'. Refute it at one input. -/
def fnEscapeWrittenBackLenNeverLongerWrong : ChangeSpec := { name := "fnEscapeWrittenBackLenNeverLonger", fn := fun _ => fun
  | [d1, d2] => { results := [.lit (.bool false)], args := [d1, d2] }
  | _ => none }
def FnEscapeWrittenBackLenNeverLongerWrongFalsely : Prop := fnEscapeWrittenBackLenNeverLongerRow.holds Try.pinned (OpenSpec.ofChange fnEscapeWrittenBackLenNeverLongerWrong)

/-- 'zzlaws_internal_pgstore_b1.FnEscapeWrittenBackLenLocal': WHATEVER THE INPUT: true; the input reads as it did. -/
def fnEscapeWrittenBackLenLocalSpec : ChangeSpec := { name := "fnEscapeWrittenBackLenLocal", fn := fun _ => fun
  | [d1, d2] => { results := [.lit (.bool true)], args := [d1, d2] }
  | _ => none }
def fnEscapeWrittenBackLenLocalRow : OpenClaim := { program := "qxb6600239a", sum := "980a88bed07e8dbb625da7f322040777db4d367e4eae7c7c3b9341c2766b1a9d", func := "example.com/rollforward/rollforward/zzlaws_internal_pgstore_b1.FnEscapeWrittenBackLenLocal", spec := "fnEscapeWrittenBackLenLocal", apart := false }
def FnEscapeWrittenBackLenLocalSaid : Prop := fnEscapeWrittenBackLenLocalRow.holds Try.pinned (OpenSpec.ofChange fnEscapeWrittenBackLenLocalSpec)

/-- ITS FALSE NEIGHBOUR: 'it returns false'. Refute it at one input. -/
def fnEscapeWrittenBackLenLocalWrong : ChangeSpec := { name := "fnEscapeWrittenBackLenLocal", fn := fun _ => fun
  | [d1, d2] => { results := [.lit (.bool false)], args := [d1, d2] }
  | _ => none }
def FnEscapeWrittenBackLenLocalWrongFalsely : Prop := fnEscapeWrittenBackLenLocalRow.holds Try.pinned (OpenSpec.ofChange fnEscapeWrittenBackLenLocalWrong)

/-- 'zzlaws_internal_pgstore_b1.FnNumberWrittenBackLenSpec': WHATEVER THE INPUT: true; the input reads as it did. -/
def fnNumberWrittenBackLenSpecSpec : ChangeSpec := { name := "fnNumberWrittenBackLenSpec", fn := fun _ => fun
  | [d1, d2] => { results := [.lit (.bool true)], args := [d1, d2] }
  | _ => none }
def fnNumberWrittenBackLenSpecRow : OpenClaim := { program := "qxb6600239a", sum := "980a88bed07e8dbb625da7f322040777db4d367e4eae7c7c3b9341c2766b1a9d", func := "example.com/rollforward/rollforward/zzlaws_internal_pgstore_b1.FnNumberWrittenBackLenSpec", spec := "fnNumberWrittenBackLenSpec", apart := false }
def FnNumberWrittenBackLenSpecSaid : Prop := fnNumberWrittenBackLenSpecRow.holds Try.pinned (OpenSpec.ofChange fnNumberWrittenBackLenSpecSpec)

/-- ITS FALSE NEIGHBOUR: 'it returns false'. Refute it at one input. -/
def fnNumberWrittenBackLenSpecWrong : ChangeSpec := { name := "fnNumberWrittenBackLenSpec", fn := fun _ => fun
  | [d1, d2] => { results := [.lit (.bool false)], args := [d1, d2] }
  | _ => none }
def FnNumberWrittenBackLenSpecWrongFalsely : Prop := fnNumberWrittenBackLenSpecRow.holds Try.pinned (OpenSpec.ofChange fnNumberWrittenBackLenSpecWrong)

/-- 'zzlaws_internal_pgstore_b1.FnNumberWrittenBackLenLocal': WHATEVER THE INPUT: true; the input reads as it did. -/
def fnNumberWrittenBackLenLocalSpec : ChangeSpec := { name := "fnNumberWrittenBackLenLocal", fn := fun _ => fun
  | [d1, d2] => { results := [.lit (.bool true)], args := [d1, d2] }
  | _ => none }
def fnNumberWrittenBackLenLocalRow : OpenClaim := { program := "qxb6600239a", sum := "980a88bed07e8dbb625da7f322040777db4d367e4eae7c7c3b9341c2766b1a9d", func := "example.com/rollforward/rollforward/zzlaws_internal_pgstore_b1.FnNumberWrittenBackLenLocal", spec := "fnNumberWrittenBackLenLocal", apart := false }
def FnNumberWrittenBackLenLocalSaid : Prop := fnNumberWrittenBackLenLocalRow.holds Try.pinned (OpenSpec.ofChange fnNumberWrittenBackLenLocalSpec)

/-- ITS FALSE NEIGHBOUR: 'it returns false'. Refute it at one input. -/
def fnNumberWrittenBackLenLocalWrong : ChangeSpec := { name := "fnNumberWrittenBackLenLocal", fn := fun _ => fun
  | [d1, d2] => { results := [.lit (.bool false)], args := [d1, d2] }
  | _ => none }
def FnNumberWrittenBackLenLocalWrongFalsely : Prop := fnNumberWrittenBackLenLocalRow.holds Try.pinned (OpenSpec.ofChange fnNumberWrittenBackLenLocalWrong)

/-- 'zzlaws_internal_pgstore_b1.FnNumberWrittenBackLenBounds': WHATEVER THE INPUT: true; the input reads as it did. -/
def fnNumberWrittenBackLenBoundsSpec : ChangeSpec := { name := "fnNumberWrittenBackLenBounds", fn := fun _ => fun
  | [d1, d2] => { results := [.lit (.bool true)], args := [d1, d2] }
  | _ => none }
def fnNumberWrittenBackLenBoundsRow : OpenClaim := { program := "qxb6600239a", sum := "980a88bed07e8dbb625da7f322040777db4d367e4eae7c7c3b9341c2766b1a9d", func := "example.com/rollforward/rollforward/zzlaws_internal_pgstore_b1.FnNumberWrittenBackLenBounds", spec := "fnNumberWrittenBackLenBounds", apart := false }
def FnNumberWrittenBackLenBoundsSaid : Prop := fnNumberWrittenBackLenBoundsRow.holds Try.pinned (OpenSpec.ofChange fnNumberWrittenBackLenBoundsSpec)

/-- ITS FALSE NEIGHBOUR: 'it returns false'. Refute it at one input. -/
def fnNumberWrittenBackLenBoundsWrong : ChangeSpec := { name := "fnNumberWrittenBackLenBounds", fn := fun _ => fun
  | [d1, d2] => { results := [.lit (.bool false)], args := [d1, d2] }
  | _ => none }
def FnNumberWrittenBackLenBoundsWrongFalsely : Prop := fnNumberWrittenBackLenBoundsRow.holds Try.pinned (OpenSpec.ofChange fnNumberWrittenBackLenBoundsWrong)

end Rows
end Go.Proofs.Qxb6600239a
