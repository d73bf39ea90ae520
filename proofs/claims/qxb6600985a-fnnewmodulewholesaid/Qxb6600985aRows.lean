/-
  No cell of these rows narrows 'for every input' (looked for: loops, veiled, ifaces, maps, wideKeys, modest, calm, conditions, laid).
  DERIVED. THE GIVEN ROWS OF THIS SEAT. 4 by the template 'for every input the law returns true; each argument reads behind the call as it read before'; 0 by the template 'total and deterministic' (their statements: Qxb6600985aTotals.lean).
  GIVEN WITH THE SEED: the statements are not yours to turn. If you find one false, say at which input.
  Laid BY PROGRAM, IN A SANDBOX (cutbox-rows.mjs): the forced cells as the released guide's own fill.sh prints them over the translation 617de56e778f9ec5… (all of the seat's roots in one cut). By AI agents, Wed Nov 11 2026. No macro, syntax, notation, axiom, sorry.
-/
import Derived.Test.Qxb6600985aChecked
import GoSem.Claim
import GoSem.ClaimJoined
import GoSem.ClaimMapViews
import Derived.JoinedTies
import Derived.KernelRfl
namespace Go.Proofs.Qxb6600985a
/- THE CELL 'sum', in the pinned program and in every row, IS THE sha256 OF THE DUMP (.gsa) THAT Qxb6600985aProg.lean LOADS. Nothing in Lean hashes anything: it is a label: what it is worth is what the hold of that sum in a sandbox is worth. -/
noncomputable def Try.pinned : Pinned := { name := "qxb6600985a", sum := "617de56e778f9ec55834232edcbad9ca1d145a114cf09dbcc0ce7adad18dbef3", checked := Try.checked }
namespace Rows
def none {H : Type} : Left H := { results := [], args := [] }

/-- 'zzlaws_internal_gomod_b1.FnImportPathInjective': WHATEVER THE INPUT: true; the input reads as it did. -/
def fnImportPathInjectiveSpec : ChangeSpec := { name := "fnImportPathInjective", fn := fun _ => fun
  | [d1, d2, d3] => { results := [.lit (.bool true)], args := [d1, d2, d3] }
  | _ => none }
def fnImportPathInjectiveRow : OpenClaim := { program := "qxb6600985a", sum := "617de56e778f9ec55834232edcbad9ca1d145a114cf09dbcc0ce7adad18dbef3", func := "example.com/edgy/edgy/zzlaws_internal_gomod_b1.FnImportPathInjective", spec := "fnImportPathInjective", apart := false }
def FnImportPathInjectiveSaid : Prop := fnImportPathInjectiveRow.holds Try.pinned (OpenSpec.ofChange fnImportPathInjectiveSpec)

/-- ITS FALSE NEIGHBOUR: 'it returns false'. Refute it at one input. -/
def fnImportPathInjectiveWrong : ChangeSpec := { name := "fnImportPathInjective", fn := fun _ => fun
  | [d1, d2, d3] => { results := [.lit (.bool false)], args := [d1, d2, d3] }
  | _ => none }
def FnImportPathInjectiveWrongFalsely : Prop := fnImportPathInjectiveRow.holds Try.pinned (OpenSpec.ofChange fnImportPathInjectiveWrong)

/-- 'zzlaws_internal_gomod_b1.FnImportPathRebase': WHATEVER THE INPUT: true; the input reads as it did. -/
def fnImportPathRebaseSpec : ChangeSpec := { name := "fnImportPathRebase", fn := fun _ => fun
  | [d1, d2, d3] => { results := [.lit (.bool true)], args := [d1, d2, d3] }
  | _ => none }
def fnImportPathRebaseRow : OpenClaim := { program := "qxb6600985a", sum := "617de56e778f9ec55834232edcbad9ca1d145a114cf09dbcc0ce7adad18dbef3", func := "example.com/edgy/edgy/zzlaws_internal_gomod_b1.FnImportPathRebase", spec := "fnImportPathRebase", apart := false }
def FnImportPathRebaseSaid : Prop := fnImportPathRebaseRow.holds Try.pinned (OpenSpec.ofChange fnImportPathRebaseSpec)

/-- ITS FALSE NEIGHBOUR: 'it returns false'. Refute it at one input. -/
def fnImportPathRebaseWrong : ChangeSpec := { name := "fnImportPathRebase", fn := fun _ => fun
  | [d1, d2, d3] => { results := [.lit (.bool false)], args := [d1, d2, d3] }
  | _ => none }
def FnImportPathRebaseWrongFalsely : Prop := fnImportPathRebaseRow.holds Try.pinned (OpenSpec.ofChange fnImportPathRebaseWrong)

/-- 'zzlaws_internal_gomod_b1.FnNewModuleWhole': WHATEVER THE INPUT: true; the input reads as it did. -/
def fnNewModuleWholeSpec : ChangeSpec := { name := "fnNewModuleWhole", fn := fun _ => fun
  | [d1, d2, d3, d4, d5] => { results := [.lit (.bool true)], args := [d1, d2, d3, d4, d5] }
  | _ => none }
def fnNewModuleWholeRow : OpenClaim := { program := "qxb6600985a", sum := "617de56e778f9ec55834232edcbad9ca1d145a114cf09dbcc0ce7adad18dbef3", func := "example.com/edgy/edgy/zzlaws_internal_gomod_b1.FnNewModuleWhole", spec := "fnNewModuleWhole", apart := false }
def FnNewModuleWholeSaid : Prop := fnNewModuleWholeRow.holds Try.pinned (OpenSpec.ofChange fnNewModuleWholeSpec)

/-- ITS FALSE NEIGHBOUR: 'it returns false'. Refute it at one input. -/
def fnNewModuleWholeWrong : ChangeSpec := { name := "fnNewModuleWhole", fn := fun _ => fun
  | [d1, d2, d3, d4, d5] => { results := [.lit (.bool false)], args := [d1, d2, d3, d4, d5] }
  | _ => none }
def FnNewModuleWholeWrongFalsely : Prop := fnNewModuleWholeRow.holds Try.pinned (OpenSpec.ofChange fnNewModuleWholeWrong)

/-- 'zzlaws_internal_gomod_b1.FnNewModuleImportPathIgnoresTree': WHATEVER THE INPUT: true; the input reads as it did. -/
def fnNewModuleImportPathIgnoresTreeSpec : ChangeSpec := { name := "fnNewModuleImportPathIgnoresTree", fn := fun _ => fun
  | [d1, d2, d3, d4, d5] => { results := [.lit (.bool true)], args := [d1, d2, d3, d4, d5] }
  | _ => none }
def fnNewModuleImportPathIgnoresTreeRow : OpenClaim := { program := "qxb6600985a", sum := "617de56e778f9ec55834232edcbad9ca1d145a114cf09dbcc0ce7adad18dbef3", func := "example.com/edgy/edgy/zzlaws_internal_gomod_b1.FnNewModuleImportPathIgnoresTree", spec := "fnNewModuleImportPathIgnoresTree", apart := false }
def FnNewModuleImportPathIgnoresTreeSaid : Prop := fnNewModuleImportPathIgnoresTreeRow.holds Try.pinned (OpenSpec.ofChange fnNewModuleImportPathIgnoresTreeSpec)

/-- ITS FALSE NEIGHBOUR: 'it returns false'. Refute it at one input. -/
def fnNewModuleImportPathIgnoresTreeWrong : ChangeSpec := { name := "fnNewModuleImportPathIgnoresTree", fn := fun _ => fun
  | [d1, d2, d3, d4, d5] => { results := [.lit (.bool false)], args := [d1, d2, d3, d4, d5] }
  | _ => none }
def FnNewModuleImportPathIgnoresTreeWrongFalsely : Prop := fnNewModuleImportPathIgnoresTreeRow.holds Try.pinned (OpenSpec.ofChange fnNewModuleImportPathIgnoresTreeWrong)

end Rows
end Go.Proofs.Qxb6600985a
