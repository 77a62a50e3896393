/-
  No cell of these rows narrows 'for every input' (looked for: loops, veiled, ifaces, maps, wideKeys, modest, calm, conditions, laid).
  DERIVED. THE GIVEN ROWS OF THIS SEAT. 3 by the template 'for every input the law returns true; each argument reads behind the call as it read before'; 0 by the template 'total and deterministic' (their statements: Qxb6619347aTotals.lean).
  GIVEN WITH THE SEED: the statements are not yours to turn. If you find one false, say at which input.
  Laid BY PROGRAM, IN A SANDBOX (cutbox-rows.mjs): the forced cells as the released guide's own fill.sh prints them over the translation 2d483916d9a96ba8… (all of the seat's roots in one cut). By AI agents, Wed Nov 11 2026. No macro, syntax, notation, axiom, sorry.
-/
import Derived.Test.Qxb6619347aChecked
import GoSem.Claim
import GoSem.ClaimJoined
import GoSem.ClaimMapViews
import Derived.JoinedTies
import Derived.KernelRfl
namespace Go.Proofs.Qxb6619347a
/- THE CELL 'sum', in the pinned program and in every row, IS THE sha256 OF THE DUMP (.gsa) THAT Qxb6619347aProg.lean LOADS. Nothing in Lean hashes anything: it is a label: what it is worth is what the hold of that sum in a sandbox is worth. -/
noncomputable def Try.pinned : Pinned := { name := "qxb6619347a", sum := "2d483916d9a96ba87abba071ebf58ac4f617766c420b5ddc7df04cc696bc3082", checked := Try.checked }
namespace Rows
def none {H : Type} : Left H := { results := [], args := [] }

/-- 'zzlaws_internal_byterange_b1.FnCutTagTakesTheLeadingEntityTag': WHATEVER THE INPUT: true; the input reads as it did. -/
def fnCutTagTakesTheLeadingEntityTagSpec : ChangeSpec := { name := "fnCutTagTakesTheLeadingEntityTag", fn := fun _ => fun
  | [d1, d2] => { results := [.lit (.bool true)], args := [d1, d2] }
  | _ => none }
def fnCutTagTakesTheLeadingEntityTagRow : OpenClaim := { program := "qxb6619347a", sum := "2d483916d9a96ba87abba071ebf58ac4f617766c420b5ddc7df04cc696bc3082", func := "example.com/sliceway/sliceway/zzlaws_internal_byterange_b1.FnCutTagTakesTheLeadingEntityTag", spec := "fnCutTagTakesTheLeadingEntityTag", inPlace := ["internal/bytealg.IndexByteString"], apart := false }
def FnCutTagTakesTheLeadingEntityTagSaid : Prop := fnCutTagTakesTheLeadingEntityTagRow.holds Try.pinned (OpenSpec.ofChange fnCutTagTakesTheLeadingEntityTagSpec)

/-- ITS FALSE NEIGHBOUR: 'it returns false'. Refute it at one input. -/
def fnCutTagTakesTheLeadingEntityTagWrong : ChangeSpec := { name := "fnCutTagTakesTheLeadingEntityTag", fn := fun _ => fun
  | [d1, d2] => { results := [.lit (.bool false)], args := [d1, d2] }
  | _ => none }
def FnCutTagTakesTheLeadingEntityTagWrongFalsely : Prop := fnCutTagTakesTheLeadingEntityTagRow.holds Try.pinned (OpenSpec.ofChange fnCutTagTakesTheLeadingEntityTagWrong)

/-- 'zzlaws_internal_byterange_b1.FnResolveSuffixIsTheLastBytes': WHATEVER THE INPUT: true; the input reads as it did. -/
def fnResolveSuffixIsTheLastBytesSpec : ChangeSpec := { name := "fnResolveSuffixIsTheLastBytes", fn := fun _ => fun
  | [d1, d2, d3, d4] => { results := [.lit (.bool true)], args := [d1, d2, d3, d4] }
  | _ => none }
def fnResolveSuffixIsTheLastBytesRow : OpenClaim := { program := "qxb6619347a", sum := "2d483916d9a96ba87abba071ebf58ac4f617766c420b5ddc7df04cc696bc3082", func := "example.com/sliceway/sliceway/zzlaws_internal_byterange_b1.FnResolveSuffixIsTheLastBytes", spec := "fnResolveSuffixIsTheLastBytes", apart := false }
def FnResolveSuffixIsTheLastBytesSaid : Prop := fnResolveSuffixIsTheLastBytesRow.holds Try.pinned (OpenSpec.ofChange fnResolveSuffixIsTheLastBytesSpec)

/-- ITS FALSE NEIGHBOUR: 'it returns false'. Refute it at one input. -/
def fnResolveSuffixIsTheLastBytesWrong : ChangeSpec := { name := "fnResolveSuffixIsTheLastBytes", fn := fun _ => fun
  | [d1, d2, d3, d4] => { results := [.lit (.bool false)], args := [d1, d2, d3, d4] }
  | _ => none }
def FnResolveSuffixIsTheLastBytesWrongFalsely : Prop := fnResolveSuffixIsTheLastBytesRow.holds Try.pinned (OpenSpec.ofChange fnResolveSuffixIsTheLastBytesWrong)

/-- 'zzlaws_internal_byterange_b1.FnResolveFromFirstClampsToTheEnd': WHATEVER THE INPUT: true; the input reads as it did. -/
def fnResolveFromFirstClampsToTheEndSpec : ChangeSpec := { name := "fnResolveFromFirstClampsToTheEnd", fn := fun _ => fun
  | [d1, d2, d3, d4, d5] => { results := [.lit (.bool true)], args := [d1, d2, d3, d4, d5] }
  | _ => none }
def fnResolveFromFirstClampsToTheEndRow : OpenClaim := { program := "qxb6619347a", sum := "2d483916d9a96ba87abba071ebf58ac4f617766c420b5ddc7df04cc696bc3082", func := "example.com/sliceway/sliceway/zzlaws_internal_byterange_b1.FnResolveFromFirstClampsToTheEnd", spec := "fnResolveFromFirstClampsToTheEnd", apart := false }
def FnResolveFromFirstClampsToTheEndSaid : Prop := fnResolveFromFirstClampsToTheEndRow.holds Try.pinned (OpenSpec.ofChange fnResolveFromFirstClampsToTheEndSpec)

/-- ITS FALSE NEIGHBOUR: 'it returns false'. Refute it at one input. -/
def fnResolveFromFirstClampsToTheEndWrong : ChangeSpec := { name := "fnResolveFromFirstClampsToTheEnd", fn := fun _ => fun
  | [d1, d2, d3, d4, d5] => { results := [.lit (.bool false)], args := [d1, d2, d3, d4, d5] }
  | _ => none }
def FnResolveFromFirstClampsToTheEndWrongFalsely : Prop := fnResolveFromFirstClampsToTheEndRow.holds Try.pinned (OpenSpec.ofChange fnResolveFromFirstClampsToTheEndWrong)

end Rows
end Go.Proofs.Qxb6619347a
