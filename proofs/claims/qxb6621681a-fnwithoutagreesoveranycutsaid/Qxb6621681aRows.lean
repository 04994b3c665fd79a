/-
  No cell of these rows narrows 'for every input' (looked for: loops, veiled, ifaces, maps, wideKeys, modest, calm, conditions, laid).
  DERIVED. THE GIVEN ROWS OF THIS SEAT. 6 by the template 'for every input the law returns true; each argument reads behind the call as it read before'; 0 by the template 'total and deterministic' (their statements: Qxb6621681aTotals.lean).
  GIVEN WITH THE SEED: the statements are not yours to turn. If you find one false, say at which input.
  Laid BY PROGRAM, IN A SANDBOX (cutbox-rows.mjs): the forced cells as the released guide's own fill.sh prints them over the translation 4213346e77b7f4a3… (all of the seat's roots in one cut). By AI agents, Wed Nov 11 2026. No macro, syntax, notation, axiom, sorry.
-/
import Derived.Test.Qxb6621681aChecked
import GoSem.Claim
import GoSem.ClaimJoined
import GoSem.ClaimMapViews
import Derived.JoinedTies
import Derived.KernelRfl
namespace Go.Proofs.Qxb6621681a
/- THE CELL 'sum', in the pinned program and in every row, IS THE sha256 OF THE DUMP (.gsa) THAT Qxb6621681aProg.lean LOADS. Nothing in Lean hashes anything: it is a label: what it is worth is what the hold of that sum in a sandbox is worth. -/
noncomputable def Try.pinned : Pinned := { name := "qxb6621681a", sum := "4213346e77b7f4a3fb02008d7856b2a98f1bfa4e377e2cab8e1a794789cabfa2", checked := Try.checked }
namespace Rows
def none {H : Type} : Left H := { results := [], args := [] }

/-- 'zzlaws_root_b1.FnEqualAgreesOverAnyCut': WHATEVER THE INPUT: true; the input reads as it did. -/
def fnEqualAgreesOverAnyCutSpec : ChangeSpec := { name := "fnEqualAgreesOverAnyCut", fn := fun _ => fun
  | [d1, d2, d3] => { results := [.lit (.bool true)], args := [d1, d2, d3] }
  | _ => none }
def fnEqualAgreesOverAnyCutRow : OpenClaim := { program := "qxb6621681a", sum := "4213346e77b7f4a3fb02008d7856b2a98f1bfa4e377e2cab8e1a794789cabfa2", func := "example.com/quorale/quorale/zzlaws_root_b1.FnEqualAgreesOverAnyCut", spec := "fnEqualAgreesOverAnyCut", apart := false }
def FnEqualAgreesOverAnyCutSaid : Prop := fnEqualAgreesOverAnyCutRow.holds Try.pinned (OpenSpec.ofChange fnEqualAgreesOverAnyCutSpec)

/-- ITS FALSE NEIGHBOUR: 'it returns false'. Refute it at one input. -/
def fnEqualAgreesOverAnyCutWrong : ChangeSpec := { name := "fnEqualAgreesOverAnyCut", fn := fun _ => fun
  | [d1, d2, d3] => { results := [.lit (.bool false)], args := [d1, d2, d3] }
  | _ => none }
def FnEqualAgreesOverAnyCutWrongFalsely : Prop := fnEqualAgreesOverAnyCutRow.holds Try.pinned (OpenSpec.ofChange fnEqualAgreesOverAnyCutWrong)

/-- 'zzlaws_root_b1.FnEqualToItsWithoutIffIDAbsent': WHATEVER THE INPUT: true; the input reads as it did. -/
def fnEqualToItsWithoutIffIDAbsentSpec : ChangeSpec := { name := "fnEqualToItsWithoutIffIDAbsent", fn := fun _ => fun
  | [d1, d2] => { results := [.lit (.bool true)], args := [d1, d2] }
  | _ => none }
def fnEqualToItsWithoutIffIDAbsentRow : OpenClaim := { program := "qxb6621681a", sum := "4213346e77b7f4a3fb02008d7856b2a98f1bfa4e377e2cab8e1a794789cabfa2", func := "example.com/quorale/quorale/zzlaws_root_b1.FnEqualToItsWithoutIffIDAbsent", spec := "fnEqualToItsWithoutIffIDAbsent", apart := false }
def FnEqualToItsWithoutIffIDAbsentSaid : Prop := fnEqualToItsWithoutIffIDAbsentRow.holds Try.pinned (OpenSpec.ofChange fnEqualToItsWithoutIffIDAbsentSpec)

/-- ITS FALSE NEIGHBOUR: 'it returns false'. Refute it at one input. -/
def fnEqualToItsWithoutIffIDAbsentWrong : ChangeSpec := { name := "fnEqualToItsWithoutIffIDAbsent", fn := fun _ => fun
  | [d1, d2] => { results := [.lit (.bool false)], args := [d1, d2] }
  | _ => none }
def FnEqualToItsWithoutIffIDAbsentWrongFalsely : Prop := fnEqualToItsWithoutIffIDAbsentRow.holds Try.pinned (OpenSpec.ofChange fnEqualToItsWithoutIffIDAbsentWrong)

/-- 'zzlaws_root_b1.FnWithoutAgreesOverAnyCut': WHATEVER THE INPUT: true; the input reads as it did. -/
def fnWithoutAgreesOverAnyCutSpec : ChangeSpec := { name := "fnWithoutAgreesOverAnyCut", fn := fun _ => fun
  | [d1, d2, d3] => { results := [.lit (.bool true)], args := [d1, d2, d3] }
  | _ => none }
def fnWithoutAgreesOverAnyCutRow : OpenClaim := { program := "qxb6621681a", sum := "4213346e77b7f4a3fb02008d7856b2a98f1bfa4e377e2cab8e1a794789cabfa2", func := "example.com/quorale/quorale/zzlaws_root_b1.FnWithoutAgreesOverAnyCut", spec := "fnWithoutAgreesOverAnyCut", apart := false }
def FnWithoutAgreesOverAnyCutSaid : Prop := fnWithoutAgreesOverAnyCutRow.holds Try.pinned (OpenSpec.ofChange fnWithoutAgreesOverAnyCutSpec)

/-- ITS FALSE NEIGHBOUR: 'it returns false'. Refute it at one input. -/
def fnWithoutAgreesOverAnyCutWrong : ChangeSpec := { name := "fnWithoutAgreesOverAnyCut", fn := fun _ => fun
  | [d1, d2, d3] => { results := [.lit (.bool false)], args := [d1, d2, d3] }
  | _ => none }
def FnWithoutAgreesOverAnyCutWrongFalsely : Prop := fnWithoutAgreesOverAnyCutRow.holds Try.pinned (OpenSpec.ofChange fnWithoutAgreesOverAnyCutWrong)

/-- 'zzlaws_root_b1.FnWithoutKeepsEveryOtherAddress': WHATEVER THE INPUT: true; the input reads as it did. -/
def fnWithoutKeepsEveryOtherAddressSpec : ChangeSpec := { name := "fnWithoutKeepsEveryOtherAddress", fn := fun _ => fun
  | [d1, d2, d3] => { results := [.lit (.bool true)], args := [d1, d2, d3] }
  | _ => none }
def fnWithoutKeepsEveryOtherAddressRow : OpenClaim := { program := "qxb6621681a", sum := "4213346e77b7f4a3fb02008d7856b2a98f1bfa4e377e2cab8e1a794789cabfa2", func := "example.com/quorale/quorale/zzlaws_root_b1.FnWithoutKeepsEveryOtherAddress", spec := "fnWithoutKeepsEveryOtherAddress", apart := false }
def FnWithoutKeepsEveryOtherAddressSaid : Prop := fnWithoutKeepsEveryOtherAddressRow.holds Try.pinned (OpenSpec.ofChange fnWithoutKeepsEveryOtherAddressSpec)

/-- ITS FALSE NEIGHBOUR: 'it returns false'. Refute it at one input. -/
def fnWithoutKeepsEveryOtherAddressWrong : ChangeSpec := { name := "fnWithoutKeepsEveryOtherAddress", fn := fun _ => fun
  | [d1, d2, d3] => { results := [.lit (.bool false)], args := [d1, d2, d3] }
  | _ => none }
def FnWithoutKeepsEveryOtherAddressWrongFalsely : Prop := fnWithoutKeepsEveryOtherAddressRow.holds Try.pinned (OpenSpec.ofChange fnWithoutKeepsEveryOtherAddressWrong)

/-- 'zzlaws_root_b1.FnTakeFillsTheLongestPrefixThatFits': WHATEVER THE INPUT: true; the input reads as it did. -/
def fnTakeFillsTheLongestPrefixThatFitsSpec : ChangeSpec := { name := "fnTakeFillsTheLongestPrefixThatFits", fn := fun _ => fun
  | [d1, d2, d3] => { results := [.lit (.bool true)], args := [d1, d2, d3] }
  | _ => none }
def fnTakeFillsTheLongestPrefixThatFitsRow : OpenClaim := { program := "qxb6621681a", sum := "4213346e77b7f4a3fb02008d7856b2a98f1bfa4e377e2cab8e1a794789cabfa2", func := "example.com/quorale/quorale/zzlaws_root_b1.FnTakeFillsTheLongestPrefixThatFits", spec := "fnTakeFillsTheLongestPrefixThatFits", apart := false }
def FnTakeFillsTheLongestPrefixThatFitsSaid : Prop := fnTakeFillsTheLongestPrefixThatFitsRow.holds Try.pinned (OpenSpec.ofChange fnTakeFillsTheLongestPrefixThatFitsSpec)

/-- ITS FALSE NEIGHBOUR: 'it returns false'. Refute it at one input. -/
def fnTakeFillsTheLongestPrefixThatFitsWrong : ChangeSpec := { name := "fnTakeFillsTheLongestPrefixThatFits", fn := fun _ => fun
  | [d1, d2, d3] => { results := [.lit (.bool false)], args := [d1, d2, d3] }
  | _ => none }
def FnTakeFillsTheLongestPrefixThatFitsWrongFalsely : Prop := fnTakeFillsTheLongestPrefixThatFitsRow.holds Try.pinned (OpenSpec.ofChange fnTakeFillsTheLongestPrefixThatFitsWrong)

/-- 'zzlaws_root_b1.FnTakeOfTwoIsOrderFree': WHATEVER THE INPUT: true; the input reads as it did. -/
def fnTakeOfTwoIsOrderFreeSpec : ChangeSpec := { name := "fnTakeOfTwoIsOrderFree", fn := fun _ => fun
  | [d1, d2, d3, d4] => { results := [.lit (.bool true)], args := [d1, d2, d3, d4] }
  | _ => none }
def fnTakeOfTwoIsOrderFreeRow : OpenClaim := { program := "qxb6621681a", sum := "4213346e77b7f4a3fb02008d7856b2a98f1bfa4e377e2cab8e1a794789cabfa2", func := "example.com/quorale/quorale/zzlaws_root_b1.FnTakeOfTwoIsOrderFree", spec := "fnTakeOfTwoIsOrderFree", apart := false }
def FnTakeOfTwoIsOrderFreeSaid : Prop := fnTakeOfTwoIsOrderFreeRow.holds Try.pinned (OpenSpec.ofChange fnTakeOfTwoIsOrderFreeSpec)

/-- ITS FALSE NEIGHBOUR: 'it returns false'. Refute it at one input. -/
def fnTakeOfTwoIsOrderFreeWrong : ChangeSpec := { name := "fnTakeOfTwoIsOrderFree", fn := fun _ => fun
  | [d1, d2, d3, d4] => { results := [.lit (.bool false)], args := [d1, d2, d3, d4] }
  | _ => none }
def FnTakeOfTwoIsOrderFreeWrongFalsely : Prop := fnTakeOfTwoIsOrderFreeRow.holds Try.pinned (OpenSpec.ofChange fnTakeOfTwoIsOrderFreeWrong)

end Rows
end Go.Proofs.Qxb6621681a
