/-
  No cell of these rows narrows 'for every input' (looked for: loops, veiled, ifaces, maps, wideKeys, modest, calm, conditions, laid).
  DERIVED. THE GIVEN ROWS OF THIS SEAT. 4 by the template 'for every input the law returns true; each argument reads behind the call as it read before'; 0 by the template 'total and deterministic' (their statements: Qxb6600983aTotals.lean).
  GIVEN WITH THE SEED: the statements are not yours to turn. If you find one false, say at which input.
  Laid BY PROGRAM, IN A SANDBOX (cutbox-rows.mjs): the forced cells as the released guide's own fill.sh prints them over the translation 5b2386d59b90dd14… (all of the seat's roots in one cut). By AI agents, Wed Nov 11 2026. No macro, syntax, notation, axiom, sorry.
-/
import Derived.Test.Qxb6600983aChecked
import GoSem.Claim
import GoSem.ClaimJoined
import GoSem.ClaimMapViews
import Derived.JoinedTies
import Derived.KernelRfl
namespace Go.Proofs.Qxb6600983a
/- THE CELL 'sum', in the pinned program and in every row, IS THE sha256 OF THE DUMP (.gsa) THAT Qxb6600983aProg.lean LOADS. Nothing in Lean hashes anything: it is a label: what it is worth is what the hold of that sum in a sandbox is worth. -/
noncomputable def Try.pinned : Pinned := { name := "qxb6600983a", sum := "5b2386d59b90dd14b1b62b4d5114d33b9e25a198e4b8c57f3e000e466b7a1ac7", checked := Try.checked }
namespace Rows
def none {H : Type} : Left H := { results := [], args := [] }

/-- 'zzlaws_internal_switching_fabric_b1.FnOwnLinksFirstCheapestPortPerPeer': WHATEVER THE INPUT: true; the input reads as it did. -/
def fnOwnLinksFirstCheapestPortPerPeerSpec : ChangeSpec := { name := "fnOwnLinksFirstCheapestPortPerPeer", fn := fun _ => fun
  | [d1, d2, d3] => { results := [.lit (.bool true)], args := [d1, d2, d3] }
  | _ => none }
def fnOwnLinksFirstCheapestPortPerPeerRow : OpenClaim := { program := "qxb6600983a", sum := "5b2386d59b90dd14b1b62b4d5114d33b9e25a198e4b8c57f3e000e466b7a1ac7", func := "example.com/flatwire/flatwire/zzlaws_internal_switching_fabric_b1.FnOwnLinksFirstCheapestPortPerPeer", spec := "fnOwnLinksFirstCheapestPortPerPeer", plainKeys := false, apart := false }
def FnOwnLinksFirstCheapestPortPerPeerSaid : Prop := fnOwnLinksFirstCheapestPortPerPeerRow.holds Try.pinned (OpenSpec.ofChange fnOwnLinksFirstCheapestPortPerPeerSpec)

/-- ITS FALSE NEIGHBOUR: 'it returns false'. Refute it at one input. -/
def fnOwnLinksFirstCheapestPortPerPeerWrong : ChangeSpec := { name := "fnOwnLinksFirstCheapestPortPerPeer", fn := fun _ => fun
  | [d1, d2, d3] => { results := [.lit (.bool false)], args := [d1, d2, d3] }
  | _ => none }
def FnOwnLinksFirstCheapestPortPerPeerWrongFalsely : Prop := fnOwnLinksFirstCheapestPortPerPeerRow.holds Try.pinned (OpenSpec.ofChange fnOwnLinksFirstCheapestPortPerPeerWrong)

/-- 'zzlaws_internal_switching_fabric_b1.FnOwnLinksFixedOnItsOwnLinks': WHATEVER THE INPUT: true; the input reads as it did. -/
def fnOwnLinksFixedOnItsOwnLinksSpec : ChangeSpec := { name := "fnOwnLinksFixedOnItsOwnLinks", fn := fun _ => fun
  | [d1, d2, d3] => { results := [.lit (.bool true)], args := [d1, d2, d3] }
  | _ => none }
def fnOwnLinksFixedOnItsOwnLinksRow : OpenClaim := { program := "qxb6600983a", sum := "5b2386d59b90dd14b1b62b4d5114d33b9e25a198e4b8c57f3e000e466b7a1ac7", func := "example.com/flatwire/flatwire/zzlaws_internal_switching_fabric_b1.FnOwnLinksFixedOnItsOwnLinks", spec := "fnOwnLinksFixedOnItsOwnLinks", plainKeys := false, apart := false }
def FnOwnLinksFixedOnItsOwnLinksSaid : Prop := fnOwnLinksFixedOnItsOwnLinksRow.holds Try.pinned (OpenSpec.ofChange fnOwnLinksFixedOnItsOwnLinksSpec)

/-- ITS FALSE NEIGHBOUR: 'it returns false'. Refute it at one input. -/
def fnOwnLinksFixedOnItsOwnLinksWrong : ChangeSpec := { name := "fnOwnLinksFixedOnItsOwnLinks", fn := fun _ => fun
  | [d1, d2, d3] => { results := [.lit (.bool false)], args := [d1, d2, d3] }
  | _ => none }
def FnOwnLinksFixedOnItsOwnLinksWrongFalsely : Prop := fnOwnLinksFixedOnItsOwnLinksRow.holds Try.pinned (OpenSpec.ofChange fnOwnLinksFixedOnItsOwnLinksWrong)

/-- 'zzlaws_internal_switching_fabric_b1.FnUnlinkedIdempotentAndSelfEmpty': WHATEVER THE INPUT: true; the input reads as it did. -/
def fnUnlinkedIdempotentAndSelfEmptySpec : ChangeSpec := { name := "fnUnlinkedIdempotentAndSelfEmpty", fn := fun _ => fun
  | [d1, d2, d3, d4, d5, d6] => { results := [.lit (.bool true)], args := [d1, d2, d3, d4, d5, d6] }
  | _ => none }
def fnUnlinkedIdempotentAndSelfEmptyRow : OpenClaim := { program := "qxb6600983a", sum := "5b2386d59b90dd14b1b62b4d5114d33b9e25a198e4b8c57f3e000e466b7a1ac7", func := "example.com/flatwire/flatwire/zzlaws_internal_switching_fabric_b1.FnUnlinkedIdempotentAndSelfEmpty", spec := "fnUnlinkedIdempotentAndSelfEmpty", unfollowed := true, recurses := true, plainKeys := false, apart := false }
def FnUnlinkedIdempotentAndSelfEmptySaid : Prop := fnUnlinkedIdempotentAndSelfEmptyRow.holds Try.pinned (OpenSpec.ofChange fnUnlinkedIdempotentAndSelfEmptySpec)

/-- ITS FALSE NEIGHBOUR: 'it returns false'. Refute it at one input. -/
def fnUnlinkedIdempotentAndSelfEmptyWrong : ChangeSpec := { name := "fnUnlinkedIdempotentAndSelfEmpty", fn := fun _ => fun
  | [d1, d2, d3, d4, d5, d6] => { results := [.lit (.bool false)], args := [d1, d2, d3, d4, d5, d6] }
  | _ => none }
def FnUnlinkedIdempotentAndSelfEmptyWrongFalsely : Prop := fnUnlinkedIdempotentAndSelfEmptyRow.holds Try.pinned (OpenSpec.ofChange fnUnlinkedIdempotentAndSelfEmptyWrong)

/-- 'zzlaws_internal_switching_fabric_b1.FnUnlinkedComposesOverAppend': WHATEVER THE INPUT: true; the input reads as it did. -/
def fnUnlinkedComposesOverAppendSpec : ChangeSpec := { name := "fnUnlinkedComposesOverAppend", fn := fun _ => fun
  | [d1, d2, d3, d4, d5, d6, d7, d8, d9] => { results := [.lit (.bool true)], args := [d1, d2, d3, d4, d5, d6, d7, d8, d9] }
  | _ => none }
def fnUnlinkedComposesOverAppendRow : OpenClaim := { program := "qxb6600983a", sum := "5b2386d59b90dd14b1b62b4d5114d33b9e25a198e4b8c57f3e000e466b7a1ac7", func := "example.com/flatwire/flatwire/zzlaws_internal_switching_fabric_b1.FnUnlinkedComposesOverAppend", spec := "fnUnlinkedComposesOverAppend", unfollowed := true, recurses := true, plainKeys := false, apart := false }
def FnUnlinkedComposesOverAppendSaid : Prop := fnUnlinkedComposesOverAppendRow.holds Try.pinned (OpenSpec.ofChange fnUnlinkedComposesOverAppendSpec)

/-- ITS FALSE NEIGHBOUR: 'it returns false'. Refute it at one input. -/
def fnUnlinkedComposesOverAppendWrong : ChangeSpec := { name := "fnUnlinkedComposesOverAppend", fn := fun _ => fun
  | [d1, d2, d3, d4, d5, d6, d7, d8, d9] => { results := [.lit (.bool false)], args := [d1, d2, d3, d4, d5, d6, d7, d8, d9] }
  | _ => none }
def FnUnlinkedComposesOverAppendWrongFalsely : Prop := fnUnlinkedComposesOverAppendRow.holds Try.pinned (OpenSpec.ofChange fnUnlinkedComposesOverAppendWrong)

end Rows
end Go.Proofs.Qxb6600983a
