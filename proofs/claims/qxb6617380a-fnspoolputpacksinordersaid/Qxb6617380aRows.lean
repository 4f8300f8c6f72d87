/-
  No cell of these rows narrows 'for every input' (looked for: loops, veiled, ifaces, maps, wideKeys, modest, calm, conditions, laid).
  DERIVED. THE GIVEN ROWS OF THIS SEAT. 3 by the template 'for every input the law returns true; each argument reads behind the call as it read before'; 0 by the template 'total and deterministic' (their statements: Qxb6617380aTotals.lean).
  GIVEN WITH THE SEED: the statements are not yours to turn. If you find one false, say at which input.
  Laid BY PROGRAM, IN A SANDBOX (cutbox-rows.mjs): the forced cells as the released guide's own fill.sh prints them over the translation 9be41697e0dd5f7a… (all of the seat's roots in one cut). By AI agents, Wed Nov 11 2026. No macro, syntax, notation, axiom, sorry.
-/
import Derived.Test.Qxb6617380aChecked
import GoSem.Claim
import GoSem.ClaimJoined
import GoSem.ClaimMapViews
import Derived.JoinedTies
import Derived.KernelRfl
namespace Go.Proofs.Qxb6617380a
/- THE CELL 'sum', in the pinned program and in every row, IS THE sha256 OF THE DUMP (.gsa) THAT Qxb6617380aProg.lean LOADS. Nothing in Lean hashes anything: it is a label: what it is worth is what the hold of that sum in a sandbox is worth. -/
noncomputable def Try.pinned : Pinned := { name := "qxb6617380a", sum := "9be41697e0dd5f7add09096ecee06b05ae246a94cde3296d81b052d4880c491d", checked := Try.checked }
namespace Rows
def none {H : Type} : Left H := { results := [], args := [] }

/-- 'zzlaws_internal_proxy_b1.FnSpoolPutPacksInOrder': WHATEVER THE INPUT: true; the input reads as it did. -/
def fnSpoolPutPacksInOrderSpec : ChangeSpec := { name := "fnSpoolPutPacksInOrder", fn := fun _ => fun
  | [d1, d2] => { results := [.lit (.bool true)], args := [d1, d2] }
  | _ => none }
def fnSpoolPutPacksInOrderRow : OpenClaim := { program := "qxb6617380a", sum := "9be41697e0dd5f7add09096ecee06b05ae246a94cde3296d81b052d4880c491d", func := "example.com/ringname/ringname/zzlaws_internal_proxy_b1.FnSpoolPutPacksInOrder", spec := "fnSpoolPutPacksInOrder", apart := false }
def FnSpoolPutPacksInOrderSaid : Prop := fnSpoolPutPacksInOrderRow.holds Try.pinned (OpenSpec.ofChange fnSpoolPutPacksInOrderSpec)

/-- ITS FALSE NEIGHBOUR: 'it returns false'. Refute it at one input. -/
def fnSpoolPutPacksInOrderWrong : ChangeSpec := { name := "fnSpoolPutPacksInOrder", fn := fun _ => fun
  | [d1, d2] => { results := [.lit (.bool false)], args := [d1, d2] }
  | _ => none }
def FnSpoolPutPacksInOrderWrongFalsely : Prop := fnSpoolPutPacksInOrderRow.holds Try.pinned (OpenSpec.ofChange fnSpoolPutPacksInOrderWrong)

/-- 'zzlaws_internal_proxy_b1.FnCloneHeadIsIndependent': WHATEVER THE INPUT: true; the input reads as it did. -/
def fnCloneHeadIsIndependentSpec : ChangeSpec := { name := "fnCloneHeadIsIndependent", fn := fun _ => fun
  | [d1, d2, d3, d4, d5, d6] => { results := [.lit (.bool true)], args := [d1, d2, d3, d4, d5, d6] }
  | _ => none }
def fnCloneHeadIsIndependentRow : OpenClaim := { program := "qxb6617380a", sum := "9be41697e0dd5f7add09096ecee06b05ae246a94cde3296d81b052d4880c491d", func := "example.com/ringname/ringname/zzlaws_internal_proxy_b1.FnCloneHeadIsIndependent", spec := "fnCloneHeadIsIndependent", apart := false }
def FnCloneHeadIsIndependentSaid : Prop := fnCloneHeadIsIndependentRow.holds Try.pinned (OpenSpec.ofChange fnCloneHeadIsIndependentSpec)

/-- ITS FALSE NEIGHBOUR: 'it returns false'. Refute it at one input. -/
def fnCloneHeadIsIndependentWrong : ChangeSpec := { name := "fnCloneHeadIsIndependent", fn := fun _ => fun
  | [d1, d2, d3, d4, d5, d6] => { results := [.lit (.bool false)], args := [d1, d2, d3, d4, d5, d6] }
  | _ => none }
def FnCloneHeadIsIndependentWrongFalsely : Prop := fnCloneHeadIsIndependentRow.holds Try.pinned (OpenSpec.ofChange fnCloneHeadIsIndependentWrong)

/-- 'zzlaws_internal_proxy_b1.FnSpoolReleaseDropsLeadingFreeChunks': WHATEVER THE INPUT: true; the input reads as it did. -/
def fnSpoolReleaseDropsLeadingFreeChunksSpec : ChangeSpec := { name := "fnSpoolReleaseDropsLeadingFreeChunks", fn := fun _ => fun
  | [d1, d2] => { results := [.lit (.bool true)], args := [d1, d2] }
  | _ => none }
def fnSpoolReleaseDropsLeadingFreeChunksRow : OpenClaim := { program := "qxb6617380a", sum := "9be41697e0dd5f7add09096ecee06b05ae246a94cde3296d81b052d4880c491d", func := "example.com/ringname/ringname/zzlaws_internal_proxy_b1.FnSpoolReleaseDropsLeadingFreeChunks", spec := "fnSpoolReleaseDropsLeadingFreeChunks", apart := false }
def FnSpoolReleaseDropsLeadingFreeChunksSaid : Prop := fnSpoolReleaseDropsLeadingFreeChunksRow.holds Try.pinned (OpenSpec.ofChange fnSpoolReleaseDropsLeadingFreeChunksSpec)

/-- ITS FALSE NEIGHBOUR: 'it returns false'. Refute it at one input. -/
def fnSpoolReleaseDropsLeadingFreeChunksWrong : ChangeSpec := { name := "fnSpoolReleaseDropsLeadingFreeChunks", fn := fun _ => fun
  | [d1, d2] => { results := [.lit (.bool false)], args := [d1, d2] }
  | _ => none }
def FnSpoolReleaseDropsLeadingFreeChunksWrongFalsely : Prop := fnSpoolReleaseDropsLeadingFreeChunksRow.holds Try.pinned (OpenSpec.ofChange fnSpoolReleaseDropsLeadingFreeChunksWrong)

end Rows
end Go.Proofs.Qxb6617380a
