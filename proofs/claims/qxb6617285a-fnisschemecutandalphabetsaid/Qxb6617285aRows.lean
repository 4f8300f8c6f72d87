/-
  No cell of these rows narrows 'for every input' (looked for: loops, veiled, ifaces, maps, wideKeys, modest, calm, conditions, laid).
  DERIVED. THE GIVEN ROWS OF THIS SEAT. 2 by the template 'for every input the law returns true; each argument reads behind the call as it read before'; 0 by the template 'total and deterministic' (their statements: Qxb6617285aTotals.lean).
  GIVEN WITH THE SEED: the statements are not yours to turn. If you find one false, say at which input.
  Laid BY PROGRAM, IN A SANDBOX (cutbox-rows.mjs): the forced cells as the released guide's own fill.sh prints them over the translation 80d81eee4dab896a… (all of the seat's roots in one cut). By AI agents, Wed Nov 11 2026. No macro, syntax, notation, axiom, sorry.
-/
import Derived.Test.Qxb6617285aChecked
import GoSem.Claim
import GoSem.ClaimJoined
import GoSem.ClaimMapViews
import Derived.JoinedTies
import Derived.KernelRfl
namespace Go.Proofs.Qxb6617285a
/- THE CELL 'sum', in the pinned program and in every row, IS THE sha256 OF THE DUMP (.gsa) THAT Qxb6617285aProg.lean LOADS. Nothing in Lean hashes anything: it is a label: what it is worth is what the hold of that sum in a sandbox is worth. -/
noncomputable def Try.pinned : Pinned := { name := "qxb6617285a", sum := "80d81eee4dab896a23bd3d23dcd8e4bb38a82cd8c3b114cc6dad0557ef262d06", checked := Try.checked }
namespace Rows
def none {H : Type} : Left H := { results := [], args := [] }

/-- 'zzlaws_header_b1.FnIsSchemeCutAndAlphabet': WHATEVER THE INPUT: true; the input reads as it did. -/
def fnIsSchemeCutAndAlphabetSpec : ChangeSpec := { name := "fnIsSchemeCutAndAlphabet", fn := fun _ => fun
  | [d1, d2, d3] => { results := [.lit (.bool true)], args := [d1, d2, d3] }
  | _ => none }
def fnIsSchemeCutAndAlphabetRow : OpenClaim := { program := "qxb6617285a", sum := "80d81eee4dab896a23bd3d23dcd8e4bb38a82cd8c3b114cc6dad0557ef262d06", func := "example.com/logbound/logbound/zzlaws_header_b1.FnIsSchemeCutAndAlphabet", spec := "fnIsSchemeCutAndAlphabet", apart := false }
def FnIsSchemeCutAndAlphabetSaid : Prop := fnIsSchemeCutAndAlphabetRow.holds Try.pinned (OpenSpec.ofChange fnIsSchemeCutAndAlphabetSpec)

/-- ITS FALSE NEIGHBOUR: 'it returns false'. Refute it at one input. -/
def fnIsSchemeCutAndAlphabetWrong : ChangeSpec := { name := "fnIsSchemeCutAndAlphabet", fn := fun _ => fun
  | [d1, d2, d3] => { results := [.lit (.bool false)], args := [d1, d2, d3] }
  | _ => none }
def FnIsSchemeCutAndAlphabetWrongFalsely : Prop := fnIsSchemeCutAndAlphabetRow.holds Try.pinned (OpenSpec.ofChange fnIsSchemeCutAndAlphabetWrong)

/-- 'zzlaws_header_b1.FnSkipOWSStopsAtFirstNonBlank': WHATEVER THE INPUT: true; the input reads as it did. -/
def fnSkipOWSStopsAtFirstNonBlankSpec : ChangeSpec := { name := "fnSkipOWSStopsAtFirstNonBlank", fn := fun _ => fun
  | [d1, d2, d3] => { results := [.lit (.bool true)], args := [d1, d2, d3] }
  | _ => none }
def fnSkipOWSStopsAtFirstNonBlankRow : OpenClaim := { program := "qxb6617285a", sum := "80d81eee4dab896a23bd3d23dcd8e4bb38a82cd8c3b114cc6dad0557ef262d06", func := "example.com/logbound/logbound/zzlaws_header_b1.FnSkipOWSStopsAtFirstNonBlank", spec := "fnSkipOWSStopsAtFirstNonBlank", apart := false }
def FnSkipOWSStopsAtFirstNonBlankSaid : Prop := fnSkipOWSStopsAtFirstNonBlankRow.holds Try.pinned (OpenSpec.ofChange fnSkipOWSStopsAtFirstNonBlankSpec)

/-- ITS FALSE NEIGHBOUR: 'it returns false'. Refute it at one input. -/
def fnSkipOWSStopsAtFirstNonBlankWrong : ChangeSpec := { name := "fnSkipOWSStopsAtFirstNonBlank", fn := fun _ => fun
  | [d1, d2, d3] => { results := [.lit (.bool false)], args := [d1, d2, d3] }
  | _ => none }
def FnSkipOWSStopsAtFirstNonBlankWrongFalsely : Prop := fnSkipOWSStopsAtFirstNonBlankRow.holds Try.pinned (OpenSpec.ofChange fnSkipOWSStopsAtFirstNonBlankWrong)

end Rows
end Go.Proofs.Qxb6617285a
