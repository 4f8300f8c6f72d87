/-
  No cell of these rows narrows 'for every input' (looked for: loops, veiled, ifaces, maps, wideKeys, modest, calm, conditions, laid).
  DERIVED. THE GIVEN ROWS OF THIS SEAT. 6 by the template 'for every input the law returns true; each argument reads behind the call as it read before'; 0 by the template 'total and deterministic' (their statements: Qxb6617033aTotals.lean).
  GIVEN WITH THE SEED: the statements are not yours to turn. If you find one false, say at which input.
  Laid BY PROGRAM, IN A SANDBOX (cutbox-rows.mjs): the forced cells as the released guide's own fill.sh prints them over the translation 5a89f4b4475c2692… (all of the seat's roots in one cut). By AI agents, Wed Nov 11 2026. No macro, syntax, notation, axiom, sorry.
-/
import Derived.Test.Qxb6617033aChecked
import GoSem.Claim
import GoSem.ClaimJoined
import GoSem.ClaimMapViews
import Derived.JoinedTies
import Derived.KernelRfl
namespace Go.Proofs.Qxb6617033a
/- THE CELL 'sum', in the pinned program and in every row, IS THE sha256 OF THE DUMP (.gsa) THAT Qxb6617033aProg.lean LOADS. Nothing in Lean hashes anything: it is a label: what it is worth is what the hold of that sum in a sandbox is worth. -/
noncomputable def Try.pinned : Pinned := { name := "qxb6617033a", sum := "5a89f4b4475c2692c0c69d08f6164a9208a7653e6da4f07f50ce433f23549d0d", checked := Try.checked }
namespace Rows
def none {H : Type} : Left H := { results := [], args := [] }

/-- 'zzlaws_root_b1.FnNextCountsOneMoreDelivery': WHATEVER THE INPUT: true; the input reads as it did. -/
def fnNextCountsOneMoreDeliverySpec : ChangeSpec := { name := "fnNextCountsOneMoreDelivery", fn := fun _ => fun
  | [d1, d2, d3] => { results := [.lit (.bool true)], args := [d1, d2, d3] }
  | _ => none }
def fnNextCountsOneMoreDeliveryRow : OpenClaim := { program := "qxb6617033a", sum := "5a89f4b4475c2692c0c69d08f6164a9208a7653e6da4f07f50ce433f23549d0d", func := "example.com/hearsay/hearsay/zzlaws_root_b1.FnNextCountsOneMoreDelivery", spec := "fnNextCountsOneMoreDelivery", plainKeys := false, apart := false }
def FnNextCountsOneMoreDeliverySaid : Prop := fnNextCountsOneMoreDeliveryRow.holds Try.pinned (OpenSpec.ofChange fnNextCountsOneMoreDeliverySpec)

/-- ITS FALSE NEIGHBOUR: 'it returns false'. Refute it at one input. -/
def fnNextCountsOneMoreDeliveryWrong : ChangeSpec := { name := "fnNextCountsOneMoreDelivery", fn := fun _ => fun
  | [d1, d2, d3] => { results := [.lit (.bool false)], args := [d1, d2, d3] }
  | _ => none }
def FnNextCountsOneMoreDeliveryWrongFalsely : Prop := fnNextCountsOneMoreDeliveryRow.holds Try.pinned (OpenSpec.ofChange fnNextCountsOneMoreDeliveryWrong)

/-- 'zzlaws_root_b1.FnNextUnheardPlaceWantsFirst': WHATEVER THE INPUT: true; the input reads as it did. -/
def fnNextUnheardPlaceWantsFirstSpec : ChangeSpec := { name := "fnNextUnheardPlaceWantsFirst", fn := fun _ => fun
  | [d1, d2, d3] => { results := [.lit (.bool true)], args := [d1, d2, d3] }
  | _ => none }
def fnNextUnheardPlaceWantsFirstRow : OpenClaim := { program := "qxb6617033a", sum := "5a89f4b4475c2692c0c69d08f6164a9208a7653e6da4f07f50ce433f23549d0d", func := "example.com/hearsay/hearsay/zzlaws_root_b1.FnNextUnheardPlaceWantsFirst", spec := "fnNextUnheardPlaceWantsFirst", plainKeys := false, apart := false }
def FnNextUnheardPlaceWantsFirstSaid : Prop := fnNextUnheardPlaceWantsFirstRow.holds Try.pinned (OpenSpec.ofChange fnNextUnheardPlaceWantsFirstSpec)

/-- ITS FALSE NEIGHBOUR: 'it returns false'. Refute it at one input. -/
def fnNextUnheardPlaceWantsFirstWrong : ChangeSpec := { name := "fnNextUnheardPlaceWantsFirst", fn := fun _ => fun
  | [d1, d2, d3] => { results := [.lit (.bool false)], args := [d1, d2, d3] }
  | _ => none }
def FnNextUnheardPlaceWantsFirstWrongFalsely : Prop := fnNextUnheardPlaceWantsFirstRow.holds Try.pinned (OpenSpec.ofChange fnNextUnheardPlaceWantsFirstWrong)

/-- 'zzlaws_root_b1.FnCutSummaryReadsTheFormat': WHATEVER THE INPUT: true; the input reads as it did. -/
def fnCutSummaryReadsTheFormatSpec : ChangeSpec := { name := "fnCutSummaryReadsTheFormat", fn := fun _ => fun
  | [d1, d2] => { results := [.lit (.bool true)], args := [d1, d2] }
  | _ => none }
def fnCutSummaryReadsTheFormatRow : OpenClaim := { program := "qxb6617033a", sum := "5a89f4b4475c2692c0c69d08f6164a9208a7653e6da4f07f50ce433f23549d0d", func := "example.com/hearsay/hearsay/zzlaws_root_b1.FnCutSummaryReadsTheFormat", spec := "fnCutSummaryReadsTheFormat", unfollowed := true, recurses := true, plainKeys := false, apart := false }
def FnCutSummaryReadsTheFormatSaid : Prop := fnCutSummaryReadsTheFormatRow.holds Try.pinned (OpenSpec.ofChange fnCutSummaryReadsTheFormatSpec)

/-- ITS FALSE NEIGHBOUR: 'it returns false'. Refute it at one input. -/
def fnCutSummaryReadsTheFormatWrong : ChangeSpec := { name := "fnCutSummaryReadsTheFormat", fn := fun _ => fun
  | [d1, d2] => { results := [.lit (.bool false)], args := [d1, d2] }
  | _ => none }
def FnCutSummaryReadsTheFormatWrongFalsely : Prop := fnCutSummaryReadsTheFormatRow.holds Try.pinned (OpenSpec.ofChange fnCutSummaryReadsTheFormatWrong)

/-- 'zzlaws_root_b1.FnCutSummaryPrefixes': WHATEVER THE INPUT: true; the input reads as it did. -/
def fnCutSummaryPrefixesSpec : ChangeSpec := { name := "fnCutSummaryPrefixes", fn := fun _ => fun
  | [d1, d2, d3] => { results := [.lit (.bool true)], args := [d1, d2, d3] }
  | _ => none }
def fnCutSummaryPrefixesRow : OpenClaim := { program := "qxb6617033a", sum := "5a89f4b4475c2692c0c69d08f6164a9208a7653e6da4f07f50ce433f23549d0d", func := "example.com/hearsay/hearsay/zzlaws_root_b1.FnCutSummaryPrefixes", spec := "fnCutSummaryPrefixes", unfollowed := true, recurses := true, plainKeys := false, apart := false }
def FnCutSummaryPrefixesSaid : Prop := fnCutSummaryPrefixesRow.holds Try.pinned (OpenSpec.ofChange fnCutSummaryPrefixesSpec)

/-- ITS FALSE NEIGHBOUR: 'it returns false'. Refute it at one input. -/
def fnCutSummaryPrefixesWrong : ChangeSpec := { name := "fnCutSummaryPrefixes", fn := fun _ => fun
  | [d1, d2, d3] => { results := [.lit (.bool false)], args := [d1, d2, d3] }
  | _ => none }
def FnCutSummaryPrefixesWrongFalsely : Prop := fnCutSummaryPrefixesRow.holds Try.pinned (OpenSpec.ofChange fnCutSummaryPrefixesWrong)

/-- 'zzlaws_root_b1.FnPopTakesTheEarliest': WHATEVER THE INPUT: true; the input reads as it did. -/
def fnPopTakesTheEarliestSpec : ChangeSpec := { name := "fnPopTakesTheEarliest", fn := fun _ => fun
  | [d] => { results := [.lit (.bool true)], args := [d] }
  | _ => none }
def fnPopTakesTheEarliestRow : OpenClaim := { program := "qxb6617033a", sum := "5a89f4b4475c2692c0c69d08f6164a9208a7653e6da4f07f50ce433f23549d0d", func := "example.com/hearsay/hearsay/zzlaws_root_b1.FnPopTakesTheEarliest", spec := "fnPopTakesTheEarliest", plainKeys := false, apart := false }
def FnPopTakesTheEarliestSaid : Prop := fnPopTakesTheEarliestRow.holds Try.pinned (OpenSpec.ofChange fnPopTakesTheEarliestSpec)

/-- ITS FALSE NEIGHBOUR: 'it returns false'. Refute it at one input. -/
def fnPopTakesTheEarliestWrong : ChangeSpec := { name := "fnPopTakesTheEarliest", fn := fun _ => fun
  | [d] => { results := [.lit (.bool false)], args := [d] }
  | _ => none }
def FnPopTakesTheEarliestWrongFalsely : Prop := fnPopTakesTheEarliestRow.holds Try.pinned (OpenSpec.ofChange fnPopTakesTheEarliestWrong)

/-- 'zzlaws_root_b1.FnPopDrainsInOrder': WHATEVER THE INPUT: true; the input reads as it did. -/
def fnPopDrainsInOrderSpec : ChangeSpec := { name := "fnPopDrainsInOrder", fn := fun _ => fun
  | [d] => { results := [.lit (.bool true)], args := [d] }
  | _ => none }
def fnPopDrainsInOrderRow : OpenClaim := { program := "qxb6617033a", sum := "5a89f4b4475c2692c0c69d08f6164a9208a7653e6da4f07f50ce433f23549d0d", func := "example.com/hearsay/hearsay/zzlaws_root_b1.FnPopDrainsInOrder", spec := "fnPopDrainsInOrder", plainKeys := false, apart := false }
def FnPopDrainsInOrderSaid : Prop := fnPopDrainsInOrderRow.holds Try.pinned (OpenSpec.ofChange fnPopDrainsInOrderSpec)

/-- ITS FALSE NEIGHBOUR: 'it returns false'. Refute it at one input. -/
def fnPopDrainsInOrderWrong : ChangeSpec := { name := "fnPopDrainsInOrder", fn := fun _ => fun
  | [d] => { results := [.lit (.bool false)], args := [d] }
  | _ => none }
def FnPopDrainsInOrderWrongFalsely : Prop := fnPopDrainsInOrderRow.holds Try.pinned (OpenSpec.ofChange fnPopDrainsInOrderWrong)

end Rows
end Go.Proofs.Qxb6617033a
