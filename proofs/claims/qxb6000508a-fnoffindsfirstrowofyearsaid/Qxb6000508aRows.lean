/-
  No cell of these rows narrows 'for every input' (looked for: loops, veiled, ifaces, maps, wideKeys, modest, calm, conditions, laid).
  DERIVED. THE GIVEN ROWS OF THIS SEAT. 4 by the template 'for every input the law returns true; each argument reads behind the call as it read before'; 0 by the template 'total and deterministic' (their statements: Qxb6000508aTotals.lean).
  GIVEN WITH THE SEED: the statements are not yours to turn. If you find one false, say at which input.
  Laid BY PROGRAM, IN A SANDBOX (cutbox-rows.mjs): the forced cells as the released guide's own fill.sh prints them over the translation d1b4b4e7f4ad73bb… (all of the seat's roots in one cut). By AI agents, Wed Nov 11 2026. No macro, syntax, notation, axiom, sorry.
-/
import Derived.Test.Qxb6000508aChecked
import GoSem.Claim
import GoSem.ClaimJoined
import GoSem.ClaimMapViews
import Derived.JoinedTies
import Derived.KernelRfl
namespace Go.Proofs.Qxb6000508a
/- THE CELL 'sum', in the pinned program and in every row, IS THE sha256 OF THE DUMP (.gsa) THAT Qxb6000508aProg.lean LOADS. Nothing in Lean hashes anything: it is a label: what it is worth is what the hold of that sum in a sandbox is worth. -/
noncomputable def Try.pinned : Pinned := { name := "qxb6000508a", sum := "d1b4b4e7f4ad73bb1bf4347bd50000947bd2088a17155c9472d20530cc08a572", checked := Try.checked }
namespace Rows
def none {H : Type} : Left H := { results := [], args := [] }

/-- 'zzlaws_grades_b1.FnInternFirstSeenIndex': WHATEVER THE INPUT: true; the input reads as it did. -/
def fnInternFirstSeenIndexSpec : ChangeSpec := { name := "fnInternFirstSeenIndex", fn := fun _ => fun
  | [d] => { results := [.lit (.bool true)], args := [d] }
  | _ => none }
def fnInternFirstSeenIndexRow : OpenClaim := { program := "qxb6000508a", sum := "d1b4b4e7f4ad73bb1bf4347bd50000947bd2088a17155c9472d20530cc08a572", func := "example.com/vestwright/vestwright/zzlaws_grades_b1.FnInternFirstSeenIndex", spec := "fnInternFirstSeenIndex", apart := false }
def FnInternFirstSeenIndexSaid : Prop := fnInternFirstSeenIndexRow.holds Try.pinned (OpenSpec.ofChange fnInternFirstSeenIndexSpec)

/-- ITS FALSE NEIGHBOUR: 'it returns false'. Refute it at one input. -/
def fnInternFirstSeenIndexWrong : ChangeSpec := { name := "fnInternFirstSeenIndex", fn := fun _ => fun
  | [d] => { results := [.lit (.bool false)], args := [d] }
  | _ => none }
def FnInternFirstSeenIndexWrongFalsely : Prop := fnInternFirstSeenIndexRow.holds Try.pinned (OpenSpec.ofChange fnInternFirstSeenIndexWrong)

/-- 'zzlaws_grades_b1.FnInternIdempotent': WHATEVER THE INPUT: true; the input reads as it did. -/
def fnInternIdempotentSpec : ChangeSpec := { name := "fnInternIdempotent", fn := fun _ => fun
  | [d] => { results := [.lit (.bool true)], args := [d] }
  | _ => none }
def fnInternIdempotentRow : OpenClaim := { program := "qxb6000508a", sum := "d1b4b4e7f4ad73bb1bf4347bd50000947bd2088a17155c9472d20530cc08a572", func := "example.com/vestwright/vestwright/zzlaws_grades_b1.FnInternIdempotent", spec := "fnInternIdempotent", apart := false }
def FnInternIdempotentSaid : Prop := fnInternIdempotentRow.holds Try.pinned (OpenSpec.ofChange fnInternIdempotentSpec)

/-- ITS FALSE NEIGHBOUR: 'it returns false'. Refute it at one input. -/
def fnInternIdempotentWrong : ChangeSpec := { name := "fnInternIdempotent", fn := fun _ => fun
  | [d] => { results := [.lit (.bool false)], args := [d] }
  | _ => none }
def FnInternIdempotentWrongFalsely : Prop := fnInternIdempotentRow.holds Try.pinned (OpenSpec.ofChange fnInternIdempotentWrong)

/-- 'zzlaws_grades_b1.FnAddReadsBack': WHATEVER THE INPUT: true; the input reads as it did. -/
def fnAddReadsBackSpec : ChangeSpec := { name := "fnAddReadsBack", fn := fun _ => fun
  | [d1, d2] => { results := [.lit (.bool true)], args := [d1, d2] }
  | _ => none }
def fnAddReadsBackRow : OpenClaim := { program := "qxb6000508a", sum := "d1b4b4e7f4ad73bb1bf4347bd50000947bd2088a17155c9472d20530cc08a572", func := "example.com/vestwright/vestwright/zzlaws_grades_b1.FnAddReadsBack", spec := "fnAddReadsBack", apart := false }
def FnAddReadsBackSaid : Prop := fnAddReadsBackRow.holds Try.pinned (OpenSpec.ofChange fnAddReadsBackSpec)

/-- ITS FALSE NEIGHBOUR: 'it returns false'. Refute it at one input. -/
def fnAddReadsBackWrong : ChangeSpec := { name := "fnAddReadsBack", fn := fun _ => fun
  | [d1, d2] => { results := [.lit (.bool false)], args := [d1, d2] }
  | _ => none }
def FnAddReadsBackWrongFalsely : Prop := fnAddReadsBackRow.holds Try.pinned (OpenSpec.ofChange fnAddReadsBackWrong)

/-- 'zzlaws_grades_b1.FnOfFindsFirstRowOfYear': WHATEVER THE INPUT: true; the input reads as it did. -/
def fnOfFindsFirstRowOfYearSpec : ChangeSpec := { name := "fnOfFindsFirstRowOfYear", fn := fun _ => fun
  | [d1, d2, d3, d4, d5, d6, d7] => { results := [.lit (.bool true)], args := [d1, d2, d3, d4, d5, d6, d7] }
  | _ => none }
def fnOfFindsFirstRowOfYearRow : OpenClaim := { program := "qxb6000508a", sum := "d1b4b4e7f4ad73bb1bf4347bd50000947bd2088a17155c9472d20530cc08a572", func := "example.com/vestwright/vestwright/zzlaws_grades_b1.FnOfFindsFirstRowOfYear", spec := "fnOfFindsFirstRowOfYear", apart := false }
def FnOfFindsFirstRowOfYearSaid : Prop := fnOfFindsFirstRowOfYearRow.holds Try.pinned (OpenSpec.ofChange fnOfFindsFirstRowOfYearSpec)

/-- ITS FALSE NEIGHBOUR: 'it returns false'. Refute it at one input. -/
def fnOfFindsFirstRowOfYearWrong : ChangeSpec := { name := "fnOfFindsFirstRowOfYear", fn := fun _ => fun
  | [d1, d2, d3, d4, d5, d6, d7] => { results := [.lit (.bool false)], args := [d1, d2, d3, d4, d5, d6, d7] }
  | _ => none }
def FnOfFindsFirstRowOfYearWrongFalsely : Prop := fnOfFindsFirstRowOfYearRow.holds Try.pinned (OpenSpec.ofChange fnOfFindsFirstRowOfYearWrong)

end Rows
end Go.Proofs.Qxb6000508a
