/-
  No cell of these rows narrows 'for every input' (looked for: loops, veiled, ifaces, maps, wideKeys, modest, calm, conditions, laid).
  DERIVED. THE GIVEN ROWS OF THIS SEAT. 5 by the template 'for every input the law returns true; each argument reads behind the call as it read before'; 0 by the template 'total and deterministic' (their statements: Qxb6602415aTotals.lean).
  GIVEN WITH THE SEED: the statements are not yours to turn. If you find one false, say at which input.
  Laid BY PROGRAM, IN A SANDBOX (cutbox-rows.mjs): the forced cells as the released guide's own fill.sh prints them over the translation c976382d5b8d1dd3… (all of the seat's roots in one cut). By AI agents, Wed Nov 11 2026. No macro, syntax, notation, axiom, sorry.
-/
import Derived.Test.Qxb6602415aChecked
import GoSem.Claim
import GoSem.ClaimJoined
import GoSem.ClaimMapViews
import Derived.JoinedTies
import Derived.KernelRfl
namespace Go.Proofs.Qxb6602415a
/- THE CELL 'sum', in the pinned program and in every row, IS THE sha256 OF THE DUMP (.gsa) THAT Qxb6602415aProg.lean LOADS. Nothing in Lean hashes anything: it is a label: what it is worth is what the hold of that sum in a sandbox is worth. -/
noncomputable def Try.pinned : Pinned := { name := "qxb6602415a", sum := "c976382d5b8d1dd3b2c695d4024592a4205712a5f71e288631b91883d6f69a61", checked := Try.checked }
namespace Rows
def none {H : Type} : Left H := { results := [], args := [] }

/-- 'zzlaws_root_b1.FnInOrderSortsAsModel': WHATEVER THE INPUT: true; the input reads as it did. -/
def fnInOrderSortsAsModelSpec : ChangeSpec := { name := "fnInOrderSortsAsModel", fn := fun _ => fun
  | [d1, d2, d3] => { results := [.lit (.bool true)], args := [d1, d2, d3] }
  | _ => none }
def fnInOrderSortsAsModelRow : OpenClaim := { program := "qxb6602415a", sum := "c976382d5b8d1dd3b2c695d4024592a4205712a5f71e288631b91883d6f69a61", func := "example.com/ustav/ustav/zzlaws_root_b1.FnInOrderSortsAsModel", spec := "fnInOrderSortsAsModel", unfollowed := true, recurses := true, apart := false }
def FnInOrderSortsAsModelSaid : Prop := fnInOrderSortsAsModelRow.holds Try.pinned (OpenSpec.ofChange fnInOrderSortsAsModelSpec)

/-- ITS FALSE NEIGHBOUR: 'it returns false'. Refute it at one input. -/
def fnInOrderSortsAsModelWrong : ChangeSpec := { name := "fnInOrderSortsAsModel", fn := fun _ => fun
  | [d1, d2, d3] => { results := [.lit (.bool false)], args := [d1, d2, d3] }
  | _ => none }
def FnInOrderSortsAsModelWrongFalsely : Prop := fnInOrderSortsAsModelRow.holds Try.pinned (OpenSpec.ofChange fnInOrderSortsAsModelWrong)

/-- 'zzlaws_root_b1.FnInOrderKeepsPrefixAndIgnoresIt': WHATEVER THE INPUT: true; the input reads as it did. -/
def fnInOrderKeepsPrefixAndIgnoresItSpec : ChangeSpec := { name := "fnInOrderKeepsPrefixAndIgnoresIt", fn := fun _ => fun
  | [d1, d2, d3] => { results := [.lit (.bool true)], args := [d1, d2, d3] }
  | _ => none }
def fnInOrderKeepsPrefixAndIgnoresItRow : OpenClaim := { program := "qxb6602415a", sum := "c976382d5b8d1dd3b2c695d4024592a4205712a5f71e288631b91883d6f69a61", func := "example.com/ustav/ustav/zzlaws_root_b1.FnInOrderKeepsPrefixAndIgnoresIt", spec := "fnInOrderKeepsPrefixAndIgnoresIt", unfollowed := true, recurses := true, apart := false }
def FnInOrderKeepsPrefixAndIgnoresItSaid : Prop := fnInOrderKeepsPrefixAndIgnoresItRow.holds Try.pinned (OpenSpec.ofChange fnInOrderKeepsPrefixAndIgnoresItSpec)

/-- ITS FALSE NEIGHBOUR: 'it returns false'. Refute it at one input. -/
def fnInOrderKeepsPrefixAndIgnoresItWrong : ChangeSpec := { name := "fnInOrderKeepsPrefixAndIgnoresIt", fn := fun _ => fun
  | [d1, d2, d3] => { results := [.lit (.bool false)], args := [d1, d2, d3] }
  | _ => none }
def FnInOrderKeepsPrefixAndIgnoresItWrongFalsely : Prop := fnInOrderKeepsPrefixAndIgnoresItRow.holds Try.pinned (OpenSpec.ofChange fnInOrderKeepsPrefixAndIgnoresItWrong)

/-- 'zzlaws_root_b1.FnMarkDuplicatesMarksRepeatsExactly': WHATEVER THE INPUT: true; the input reads as it did. -/
def fnMarkDuplicatesMarksRepeatsExactlySpec : ChangeSpec := { name := "fnMarkDuplicatesMarksRepeatsExactly", fn := fun _ => fun
  | [d1, d2] => { results := [.lit (.bool true)], args := [d1, d2] }
  | _ => none }
def fnMarkDuplicatesMarksRepeatsExactlyRow : OpenClaim := { program := "qxb6602415a", sum := "c976382d5b8d1dd3b2c695d4024592a4205712a5f71e288631b91883d6f69a61", func := "example.com/ustav/ustav/zzlaws_root_b1.FnMarkDuplicatesMarksRepeatsExactly", spec := "fnMarkDuplicatesMarksRepeatsExactly", apart := false }
def FnMarkDuplicatesMarksRepeatsExactlySaid : Prop := fnMarkDuplicatesMarksRepeatsExactlyRow.holds Try.pinned (OpenSpec.ofChange fnMarkDuplicatesMarksRepeatsExactlySpec)

/-- ITS FALSE NEIGHBOUR: 'it returns false'. Refute it at one input. -/
def fnMarkDuplicatesMarksRepeatsExactlyWrong : ChangeSpec := { name := "fnMarkDuplicatesMarksRepeatsExactly", fn := fun _ => fun
  | [d1, d2] => { results := [.lit (.bool false)], args := [d1, d2] }
  | _ => none }
def FnMarkDuplicatesMarksRepeatsExactlyWrongFalsely : Prop := fnMarkDuplicatesMarksRepeatsExactlyRow.holds Try.pinned (OpenSpec.ofChange fnMarkDuplicatesMarksRepeatsExactlyWrong)

/-- 'zzlaws_root_b1.FnMarkDuplicatesIsIdempotent': WHATEVER THE INPUT: true; the input reads as it did. -/
def fnMarkDuplicatesIsIdempotentSpec : ChangeSpec := { name := "fnMarkDuplicatesIsIdempotent", fn := fun _ => fun
  | [d1, d2] => { results := [.lit (.bool true)], args := [d1, d2] }
  | _ => none }
def fnMarkDuplicatesIsIdempotentRow : OpenClaim := { program := "qxb6602415a", sum := "c976382d5b8d1dd3b2c695d4024592a4205712a5f71e288631b91883d6f69a61", func := "example.com/ustav/ustav/zzlaws_root_b1.FnMarkDuplicatesIsIdempotent", spec := "fnMarkDuplicatesIsIdempotent", apart := false }
def FnMarkDuplicatesIsIdempotentSaid : Prop := fnMarkDuplicatesIsIdempotentRow.holds Try.pinned (OpenSpec.ofChange fnMarkDuplicatesIsIdempotentSpec)

/-- ITS FALSE NEIGHBOUR: 'it returns false'. Refute it at one input. -/
def fnMarkDuplicatesIsIdempotentWrong : ChangeSpec := { name := "fnMarkDuplicatesIsIdempotent", fn := fun _ => fun
  | [d1, d2] => { results := [.lit (.bool false)], args := [d1, d2] }
  | _ => none }
def FnMarkDuplicatesIsIdempotentWrongFalsely : Prop := fnMarkDuplicatesIsIdempotentRow.holds Try.pinned (OpenSpec.ofChange fnMarkDuplicatesIsIdempotentWrong)

/-- 'zzlaws_root_b1.FnMarkDuplicatesAgreesWithInOrder': WHATEVER THE INPUT: true; the input reads as it did. -/
def fnMarkDuplicatesAgreesWithInOrderSpec : ChangeSpec := { name := "fnMarkDuplicatesAgreesWithInOrder", fn := fun _ => fun
  | [d1, d2] => { results := [.lit (.bool true)], args := [d1, d2] }
  | _ => none }
def fnMarkDuplicatesAgreesWithInOrderRow : OpenClaim := { program := "qxb6602415a", sum := "c976382d5b8d1dd3b2c695d4024592a4205712a5f71e288631b91883d6f69a61", func := "example.com/ustav/ustav/zzlaws_root_b1.FnMarkDuplicatesAgreesWithInOrder", spec := "fnMarkDuplicatesAgreesWithInOrder", unfollowed := true, recurses := true, apart := false }
def FnMarkDuplicatesAgreesWithInOrderSaid : Prop := fnMarkDuplicatesAgreesWithInOrderRow.holds Try.pinned (OpenSpec.ofChange fnMarkDuplicatesAgreesWithInOrderSpec)

/-- ITS FALSE NEIGHBOUR: 'it returns false'. Refute it at one input. -/
def fnMarkDuplicatesAgreesWithInOrderWrong : ChangeSpec := { name := "fnMarkDuplicatesAgreesWithInOrder", fn := fun _ => fun
  | [d1, d2] => { results := [.lit (.bool false)], args := [d1, d2] }
  | _ => none }
def FnMarkDuplicatesAgreesWithInOrderWrongFalsely : Prop := fnMarkDuplicatesAgreesWithInOrderRow.holds Try.pinned (OpenSpec.ofChange fnMarkDuplicatesAgreesWithInOrderWrong)

end Rows
end Go.Proofs.Qxb6602415a
