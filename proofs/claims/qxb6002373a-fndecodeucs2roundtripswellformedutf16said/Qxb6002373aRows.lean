/-
  No cell of these rows narrows 'for every input' (looked for: loops, veiled, ifaces, maps, wideKeys, modest, calm, conditions, laid).
  DERIVED. THE GIVEN ROWS OF THIS SEAT. 5 by the template 'for every input the law returns true; each argument reads behind the call as it read before'; 0 by the template 'total and deterministic' (their statements: Qxb6002373aTotals.lean).
  GIVEN WITH THE SEED: the statements are not yours to turn. If you find one false, say at which input.
  Laid BY PROGRAM, IN A SANDBOX (cutbox-rows.mjs): the forced cells as the released guide's own fill.sh prints them over the translation dd467869378ffe82… (all of the seat's roots in one cut). By AI agents, Wed Nov 11 2026. No macro, syntax, notation, axiom, sorry.
-/
import Derived.Test.Qxb6002373aChecked
import GoSem.Claim
import GoSem.ClaimJoined
import GoSem.ClaimMapViews
import Derived.JoinedTies
import Derived.KernelRfl
namespace Go.Proofs.Qxb6002373a
/- THE CELL 'sum', in the pinned program and in every row, IS THE sha256 OF THE DUMP (.gsa) THAT Qxb6002373aProg.lean LOADS. Nothing in Lean hashes anything: it is a label: what it is worth is what the hold of that sum in a sandbox is worth. -/
noncomputable def Try.pinned : Pinned := { name := "qxb6002373a", sum := "dd467869378ffe824924107497de2792950d62e1d91828b63c8e0074e36f7b9c", checked := Try.checked }
namespace Rows
def none {H : Type} : Left H := { results := [], args := [] }

/-- 'zzlaws_efi_g1.FnDecodeUCS2EndsAtFirstAlignedZeroUnit': WHATEVER THE INPUT: true; the input reads as it did. -/
def fnDecodeUCS2EndsAtFirstAlignedZeroUnitSpec : ChangeSpec := { name := "fnDecodeUCS2EndsAtFirstAlignedZeroUnit", fn := fun _ => fun
  | [d] => { results := [.lit (.bool true)], args := [d] }
  | _ => none }
def fnDecodeUCS2EndsAtFirstAlignedZeroUnitRow : OpenClaim := { program := "qxb6002373a", sum := "dd467869378ffe824924107497de2792950d62e1d91828b63c8e0074e36f7b9c", func := "example.com/firmrudder/firmrudder/zzlaws_efi_g1.FnDecodeUCS2EndsAtFirstAlignedZeroUnit", spec := "fnDecodeUCS2EndsAtFirstAlignedZeroUnit", apart := false }
def FnDecodeUCS2EndsAtFirstAlignedZeroUnitSaid : Prop := fnDecodeUCS2EndsAtFirstAlignedZeroUnitRow.holds Try.pinned (OpenSpec.ofChange fnDecodeUCS2EndsAtFirstAlignedZeroUnitSpec)

/-- ITS FALSE NEIGHBOUR: 'it returns false'. Refute it at one input. -/
def fnDecodeUCS2EndsAtFirstAlignedZeroUnitWrong : ChangeSpec := { name := "fnDecodeUCS2EndsAtFirstAlignedZeroUnit", fn := fun _ => fun
  | [d] => { results := [.lit (.bool false)], args := [d] }
  | _ => none }
def FnDecodeUCS2EndsAtFirstAlignedZeroUnitWrongFalsely : Prop := fnDecodeUCS2EndsAtFirstAlignedZeroUnitRow.holds Try.pinned (OpenSpec.ofChange fnDecodeUCS2EndsAtFirstAlignedZeroUnitWrong)

/-- 'zzlaws_efi_g1.FnDecodeUCS2IgnoresBytesAfterTerminator': WHATEVER THE INPUT: true; the input reads as it did. -/
def fnDecodeUCS2IgnoresBytesAfterTerminatorSpec : ChangeSpec := { name := "fnDecodeUCS2IgnoresBytesAfterTerminator", fn := fun _ => fun
  | [d1, d2] => { results := [.lit (.bool true)], args := [d1, d2] }
  | _ => none }
def fnDecodeUCS2IgnoresBytesAfterTerminatorRow : OpenClaim := { program := "qxb6002373a", sum := "dd467869378ffe824924107497de2792950d62e1d91828b63c8e0074e36f7b9c", func := "example.com/firmrudder/firmrudder/zzlaws_efi_g1.FnDecodeUCS2IgnoresBytesAfterTerminator", spec := "fnDecodeUCS2IgnoresBytesAfterTerminator", apart := false }
def FnDecodeUCS2IgnoresBytesAfterTerminatorSaid : Prop := fnDecodeUCS2IgnoresBytesAfterTerminatorRow.holds Try.pinned (OpenSpec.ofChange fnDecodeUCS2IgnoresBytesAfterTerminatorSpec)

/-- ITS FALSE NEIGHBOUR: 'it returns false'. Refute it at one input. -/
def fnDecodeUCS2IgnoresBytesAfterTerminatorWrong : ChangeSpec := { name := "fnDecodeUCS2IgnoresBytesAfterTerminator", fn := fun _ => fun
  | [d1, d2] => { results := [.lit (.bool false)], args := [d1, d2] }
  | _ => none }
def FnDecodeUCS2IgnoresBytesAfterTerminatorWrongFalsely : Prop := fnDecodeUCS2IgnoresBytesAfterTerminatorRow.holds Try.pinned (OpenSpec.ofChange fnDecodeUCS2IgnoresBytesAfterTerminatorWrong)

/-- 'zzlaws_efi_g1.FnDecodeUCS2InvertsUTF16LE': WHATEVER THE INPUT: true; the input reads as it did. -/
def fnDecodeUCS2InvertsUTF16LESpec : ChangeSpec := { name := "fnDecodeUCS2InvertsUTF16LE", fn := fun _ => fun
  | [d1, d2] => { results := [.lit (.bool true)], args := [d1, d2] }
  | _ => none }
def fnDecodeUCS2InvertsUTF16LERow : OpenClaim := { program := "qxb6002373a", sum := "dd467869378ffe824924107497de2792950d62e1d91828b63c8e0074e36f7b9c", func := "example.com/firmrudder/firmrudder/zzlaws_efi_g1.FnDecodeUCS2InvertsUTF16LE", spec := "fnDecodeUCS2InvertsUTF16LE", apart := false }
def FnDecodeUCS2InvertsUTF16LESaid : Prop := fnDecodeUCS2InvertsUTF16LERow.holds Try.pinned (OpenSpec.ofChange fnDecodeUCS2InvertsUTF16LESpec)

/-- ITS FALSE NEIGHBOUR: 'it returns false'. Refute it at one input. -/
def fnDecodeUCS2InvertsUTF16LEWrong : ChangeSpec := { name := "fnDecodeUCS2InvertsUTF16LE", fn := fun _ => fun
  | [d1, d2] => { results := [.lit (.bool false)], args := [d1, d2] }
  | _ => none }
def FnDecodeUCS2InvertsUTF16LEWrongFalsely : Prop := fnDecodeUCS2InvertsUTF16LERow.holds Try.pinned (OpenSpec.ofChange fnDecodeUCS2InvertsUTF16LEWrong)

/-- 'zzlaws_efi_g1.FnDecodeUCS2YieldsUCS2TextWithinBounds': WHATEVER THE INPUT: true; the input reads as it did. -/
def fnDecodeUCS2YieldsUCS2TextWithinBoundsSpec : ChangeSpec := { name := "fnDecodeUCS2YieldsUCS2TextWithinBounds", fn := fun _ => fun
  | [d] => { results := [.lit (.bool true)], args := [d] }
  | _ => none }
def fnDecodeUCS2YieldsUCS2TextWithinBoundsRow : OpenClaim := { program := "qxb6002373a", sum := "dd467869378ffe824924107497de2792950d62e1d91828b63c8e0074e36f7b9c", func := "example.com/firmrudder/firmrudder/zzlaws_efi_g1.FnDecodeUCS2YieldsUCS2TextWithinBounds", spec := "fnDecodeUCS2YieldsUCS2TextWithinBounds", apart := false }
def FnDecodeUCS2YieldsUCS2TextWithinBoundsSaid : Prop := fnDecodeUCS2YieldsUCS2TextWithinBoundsRow.holds Try.pinned (OpenSpec.ofChange fnDecodeUCS2YieldsUCS2TextWithinBoundsSpec)

/-- ITS FALSE NEIGHBOUR: 'it returns false'. Refute it at one input. -/
def fnDecodeUCS2YieldsUCS2TextWithinBoundsWrong : ChangeSpec := { name := "fnDecodeUCS2YieldsUCS2TextWithinBounds", fn := fun _ => fun
  | [d] => { results := [.lit (.bool false)], args := [d] }
  | _ => none }
def FnDecodeUCS2YieldsUCS2TextWithinBoundsWrongFalsely : Prop := fnDecodeUCS2YieldsUCS2TextWithinBoundsRow.holds Try.pinned (OpenSpec.ofChange fnDecodeUCS2YieldsUCS2TextWithinBoundsWrong)

/-- 'zzlaws_efi_g1.FnDecodeUCS2RoundTripsWellFormedUTF16': WHATEVER THE INPUT: true; the input reads as it did. -/
def fnDecodeUCS2RoundTripsWellFormedUTF16Spec : ChangeSpec := { name := "fnDecodeUCS2RoundTripsWellFormedUTF16", fn := fun _ => fun
  | [d] => { results := [.lit (.bool true)], args := [d] }
  | _ => none }
def fnDecodeUCS2RoundTripsWellFormedUTF16Row : OpenClaim := { program := "qxb6002373a", sum := "dd467869378ffe824924107497de2792950d62e1d91828b63c8e0074e36f7b9c", func := "example.com/firmrudder/firmrudder/zzlaws_efi_g1.FnDecodeUCS2RoundTripsWellFormedUTF16", spec := "fnDecodeUCS2RoundTripsWellFormedUTF16", apart := false }
def FnDecodeUCS2RoundTripsWellFormedUTF16Said : Prop := fnDecodeUCS2RoundTripsWellFormedUTF16Row.holds Try.pinned (OpenSpec.ofChange fnDecodeUCS2RoundTripsWellFormedUTF16Spec)

/-- ITS FALSE NEIGHBOUR: 'it returns false'. Refute it at one input. -/
def fnDecodeUCS2RoundTripsWellFormedUTF16Wrong : ChangeSpec := { name := "fnDecodeUCS2RoundTripsWellFormedUTF16", fn := fun _ => fun
  | [d] => { results := [.lit (.bool false)], args := [d] }
  | _ => none }
def FnDecodeUCS2RoundTripsWellFormedUTF16WrongFalsely : Prop := fnDecodeUCS2RoundTripsWellFormedUTF16Row.holds Try.pinned (OpenSpec.ofChange fnDecodeUCS2RoundTripsWellFormedUTF16Wrong)

end Rows
end Go.Proofs.Qxb6002373a
