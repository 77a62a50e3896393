/-
  No cell of these rows narrows 'for every input' (looked for: loops, veiled, ifaces, maps, wideKeys, modest, calm, conditions, laid).
  DERIVED. THE GIVEN ROWS OF THIS SEAT. 3 by the template 'for every input the law returns true; each argument reads behind the call as it read before'; 0 by the template 'total and deterministic' (their statements: Qxb6618013aTotals.lean).
  GIVEN WITH THE SEED: the statements are not yours to turn. If you find one false, say at which input.
  Laid BY PROGRAM, IN A SANDBOX (cutbox-rows.mjs): the forced cells as the released guide's own fill.sh prints them over the translation 0d3810f3483a5dde… (all of the seat's roots in one cut). By AI agents, Wed Nov 11 2026. No macro, syntax, notation, axiom, sorry.
-/
import Derived.Test.Qxb6618013aChecked
import GoSem.Claim
import GoSem.ClaimJoined
import GoSem.ClaimMapViews
import Derived.JoinedTies
import Derived.KernelRfl
namespace Go.Proofs.Qxb6618013a
/- THE CELL 'sum', in the pinned program and in every row, IS THE sha256 OF THE DUMP (.gsa) THAT Qxb6618013aProg.lean LOADS. Nothing in Lean hashes anything: it is a label: what it is worth is what the hold of that sum in a sandbox is worth. -/
noncomputable def Try.pinned : Pinned := { name := "qxb6618013a", sum := "0d3810f3483a5dde1295ce1ae475ac3695ef8137f7a2611dae5a66fd16a9644f", checked := Try.checked }
namespace Rows
def none {H : Type} : Left H := { results := [], args := [] }

/-- 'zzlaws_pkg_endpoint_b1.FnSkipQuotedLocal': WHATEVER THE INPUT: true; the input reads as it did. -/
def fnSkipQuotedLocalSpec : ChangeSpec := { name := "fnSkipQuotedLocal", fn := fun _ => fun
  | [d1, d2, d3, d4, d5, d6] => { results := [.lit (.bool true)], args := [d1, d2, d3, d4, d5, d6] }
  | _ => none }
def fnSkipQuotedLocalRow : OpenClaim := { program := "qxb6618013a", sum := "0d3810f3483a5dde1295ce1ae475ac3695ef8137f7a2611dae5a66fd16a9644f", func := "example.com/concordant/concordant/zzlaws_pkg_endpoint_b1.FnSkipQuotedLocal", spec := "fnSkipQuotedLocal", apart := false }
def FnSkipQuotedLocalSaid : Prop := fnSkipQuotedLocalRow.holds Try.pinned (OpenSpec.ofChange fnSkipQuotedLocalSpec)

/-- ITS FALSE NEIGHBOUR: 'it returns false'. Refute it at one input. -/
def fnSkipQuotedLocalWrong : ChangeSpec := { name := "fnSkipQuotedLocal", fn := fun _ => fun
  | [d1, d2, d3, d4, d5, d6] => { results := [.lit (.bool false)], args := [d1, d2, d3, d4, d5, d6] }
  | _ => none }
def FnSkipQuotedLocalWrongFalsely : Prop := fnSkipQuotedLocalRow.holds Try.pinned (OpenSpec.ofChange fnSkipQuotedLocalWrong)

/-- 'zzlaws_pkg_endpoint_b1.FnSkipBlockCommentNested': WHATEVER THE INPUT: true; the input reads as it did. -/
def fnSkipBlockCommentNestedSpec : ChangeSpec := { name := "fnSkipBlockCommentNested", fn := fun _ => fun
  | [d1, d2] => { results := [.lit (.bool true)], args := [d1, d2] }
  | _ => none }
def fnSkipBlockCommentNestedRow : OpenClaim := { program := "qxb6618013a", sum := "0d3810f3483a5dde1295ce1ae475ac3695ef8137f7a2611dae5a66fd16a9644f", func := "example.com/concordant/concordant/zzlaws_pkg_endpoint_b1.FnSkipBlockCommentNested", spec := "fnSkipBlockCommentNested", recurses := true, apart := false }
def FnSkipBlockCommentNestedSaid : Prop := fnSkipBlockCommentNestedRow.holds Try.pinned (OpenSpec.ofChange fnSkipBlockCommentNestedSpec)

/-- ITS FALSE NEIGHBOUR: 'it returns false'. Refute it at one input. -/
def fnSkipBlockCommentNestedWrong : ChangeSpec := { name := "fnSkipBlockCommentNested", fn := fun _ => fun
  | [d1, d2] => { results := [.lit (.bool false)], args := [d1, d2] }
  | _ => none }
def FnSkipBlockCommentNestedWrongFalsely : Prop := fnSkipBlockCommentNestedRow.holds Try.pinned (OpenSpec.ofChange fnSkipBlockCommentNestedWrong)

/-- 'zzlaws_pkg_endpoint_b1.FnSkipBlockCommentLocal': WHATEVER THE INPUT: true; the input reads as it did. -/
def fnSkipBlockCommentLocalSpec : ChangeSpec := { name := "fnSkipBlockCommentLocal", fn := fun _ => fun
  | [d1, d2, d3, d4] => { results := [.lit (.bool true)], args := [d1, d2, d3, d4] }
  | _ => none }
def fnSkipBlockCommentLocalRow : OpenClaim := { program := "qxb6618013a", sum := "0d3810f3483a5dde1295ce1ae475ac3695ef8137f7a2611dae5a66fd16a9644f", func := "example.com/concordant/concordant/zzlaws_pkg_endpoint_b1.FnSkipBlockCommentLocal", spec := "fnSkipBlockCommentLocal", apart := false }
def FnSkipBlockCommentLocalSaid : Prop := fnSkipBlockCommentLocalRow.holds Try.pinned (OpenSpec.ofChange fnSkipBlockCommentLocalSpec)

/-- ITS FALSE NEIGHBOUR: 'it returns false'. Refute it at one input. -/
def fnSkipBlockCommentLocalWrong : ChangeSpec := { name := "fnSkipBlockCommentLocal", fn := fun _ => fun
  | [d1, d2, d3, d4] => { results := [.lit (.bool false)], args := [d1, d2, d3, d4] }
  | _ => none }
def FnSkipBlockCommentLocalWrongFalsely : Prop := fnSkipBlockCommentLocalRow.holds Try.pinned (OpenSpec.ofChange fnSkipBlockCommentLocalWrong)

end Rows
end Go.Proofs.Qxb6618013a
