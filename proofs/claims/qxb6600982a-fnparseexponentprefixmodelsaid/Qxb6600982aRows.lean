/-
  No cell of these rows narrows 'for every input' (looked for: loops, veiled, ifaces, maps, wideKeys, modest, calm, conditions, laid).
  DERIVED. THE GIVEN ROWS OF THIS SEAT. 2 by the template 'for every input the law returns true; each argument reads behind the call as it read before'; 0 by the template 'total and deterministic' (their statements: Qxb6600982aTotals.lean).
  GIVEN WITH THE SEED: the statements are not yours to turn. If you find one false, say at which input.
  Laid BY PROGRAM, IN A SANDBOX (cutbox-rows.mjs): the forced cells as the released guide's own fill.sh prints them over the translation 571d35bf4cac98c1… (all of the seat's roots in one cut). By AI agents, Wed Nov 11 2026. No macro, syntax, notation, axiom, sorry.
-/
import Derived.Test.Qxb6600982aChecked
import GoSem.Claim
import GoSem.ClaimJoined
import GoSem.ClaimMapViews
import Derived.JoinedTies
import Derived.KernelRfl
namespace Go.Proofs.Qxb6600982a
/- THE CELL 'sum', in the pinned program and in every row, IS THE sha256 OF THE DUMP (.gsa) THAT Qxb6600982aProg.lean LOADS. Nothing in Lean hashes anything: it is a label: what it is worth is what the hold of that sum in a sandbox is worth. -/
noncomputable def Try.pinned : Pinned := { name := "qxb6600982a", sum := "571d35bf4cac98c1721151a439a171af51a4e7dd383dfba208786e94121d1a47", checked := Try.checked }
namespace Rows
def none {H : Type} : Left H := { results := [], args := [] }

/-- 'zzlaws_internal_jsonio_b1.FnParseExponentPrefixModel': WHATEVER THE INPUT: true; the input reads as it did. -/
def fnParseExponentPrefixModelSpec : ChangeSpec := { name := "fnParseExponentPrefixModel", fn := fun _ => fun
  | [d1, d2] => { results := [.lit (.bool true)], args := [d1, d2] }
  | _ => none }
def fnParseExponentPrefixModelRow : OpenClaim := { program := "qxb6600982a", sum := "571d35bf4cac98c1721151a439a171af51a4e7dd383dfba208786e94121d1a47", func := "example.com/plaint/plaint/zzlaws_internal_jsonio_b1.FnParseExponentPrefixModel", spec := "fnParseExponentPrefixModel", apart := false }
def FnParseExponentPrefixModelSaid : Prop := fnParseExponentPrefixModelRow.holds Try.pinned (OpenSpec.ofChange fnParseExponentPrefixModelSpec)

/-- ITS FALSE NEIGHBOUR: 'it returns false'. Refute it at one input. -/
def fnParseExponentPrefixModelWrong : ChangeSpec := { name := "fnParseExponentPrefixModel", fn := fun _ => fun
  | [d1, d2] => { results := [.lit (.bool false)], args := [d1, d2] }
  | _ => none }
def FnParseExponentPrefixModelWrongFalsely : Prop := fnParseExponentPrefixModelRow.holds Try.pinned (OpenSpec.ofChange fnParseExponentPrefixModelWrong)

/-- 'zzlaws_internal_jsonio_b1.FnParseExponentGrowsThenHolds': WHATEVER THE INPUT: true; the input reads as it did. -/
def fnParseExponentGrowsThenHoldsSpec : ChangeSpec := { name := "fnParseExponentGrowsThenHolds", fn := fun _ => fun
  | [d1, d2] => { results := [.lit (.bool true)], args := [d1, d2] }
  | _ => none }
def fnParseExponentGrowsThenHoldsRow : OpenClaim := { program := "qxb6600982a", sum := "571d35bf4cac98c1721151a439a171af51a4e7dd383dfba208786e94121d1a47", func := "example.com/plaint/plaint/zzlaws_internal_jsonio_b1.FnParseExponentGrowsThenHolds", spec := "fnParseExponentGrowsThenHolds", apart := false }
def FnParseExponentGrowsThenHoldsSaid : Prop := fnParseExponentGrowsThenHoldsRow.holds Try.pinned (OpenSpec.ofChange fnParseExponentGrowsThenHoldsSpec)

/-- ITS FALSE NEIGHBOUR: 'it returns false'. Refute it at one input. -/
def fnParseExponentGrowsThenHoldsWrong : ChangeSpec := { name := "fnParseExponentGrowsThenHolds", fn := fun _ => fun
  | [d1, d2] => { results := [.lit (.bool false)], args := [d1, d2] }
  | _ => none }
def FnParseExponentGrowsThenHoldsWrongFalsely : Prop := fnParseExponentGrowsThenHoldsRow.holds Try.pinned (OpenSpec.ofChange fnParseExponentGrowsThenHoldsWrong)

end Rows
end Go.Proofs.Qxb6600982a
