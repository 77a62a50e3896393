/-
  No cell of these rows narrows 'for every input' (looked for: loops, veiled, ifaces, maps, wideKeys, modest, calm, conditions, laid).
  DERIVED. THE GIVEN ROWS OF THIS SEAT. 3 by the template 'for every input the law returns true; each argument reads behind the call as it read before'; 0 by the template 'total and deterministic' (their statements: Qxb6618080aTotals.lean).
  GIVEN WITH THE SEED: the statements are not yours to turn. If you find one false, say at which input.
  Laid BY PROGRAM, IN A SANDBOX (cutbox-rows.mjs): the forced cells as the released guide's own fill.sh prints them over the translation 234bdaeda1d49217… (all of the seat's roots in one cut). By AI agents, Wed Nov 11 2026. No macro, syntax, notation, axiom, sorry.
-/
import Derived.Test.Qxb6618080aChecked
import GoSem.Claim
import GoSem.ClaimJoined
import GoSem.ClaimMapViews
import Derived.JoinedTies
import Derived.KernelRfl
namespace Go.Proofs.Qxb6618080a
/- THE CELL 'sum', in the pinned program and in every row, IS THE sha256 OF THE DUMP (.gsa) THAT Qxb6618080aProg.lean LOADS. Nothing in Lean hashes anything: it is a label: what it is worth is what the hold of that sum in a sandbox is worth. -/
noncomputable def Try.pinned : Pinned := { name := "qxb6618080a", sum := "234bdaeda1d49217fe611444f7c220d3cc8c79ebf3d98537f864c1276924eccf", checked := Try.checked }
namespace Rows
def none {H : Type} : Left H := { results := [], args := [] }

/-- 'zzlaws_value_b1.FnIsDecimalMatchesAutomaton': WHATEVER THE INPUT: true; the input reads as it did. -/
def fnIsDecimalMatchesAutomatonSpec : ChangeSpec := { name := "fnIsDecimalMatchesAutomaton", fn := fun _ => fun
  | [d] => { results := [.lit (.bool true)], args := [d] }
  | _ => none }
def fnIsDecimalMatchesAutomatonRow : OpenClaim := { program := "qxb6618080a", sum := "234bdaeda1d49217fe611444f7c220d3cc8c79ebf3d98537f864c1276924eccf", func := "example.com/rowform/rowform/zzlaws_value_b1.FnIsDecimalMatchesAutomaton", spec := "fnIsDecimalMatchesAutomaton", unfollowed := true, recurses := true, apart := false }
def FnIsDecimalMatchesAutomatonSaid : Prop := fnIsDecimalMatchesAutomatonRow.holds Try.pinned (OpenSpec.ofChange fnIsDecimalMatchesAutomatonSpec)

/-- ITS FALSE NEIGHBOUR: 'it returns false'. Refute it at one input. -/
def fnIsDecimalMatchesAutomatonWrong : ChangeSpec := { name := "fnIsDecimalMatchesAutomaton", fn := fun _ => fun
  | [d] => { results := [.lit (.bool false)], args := [d] }
  | _ => none }
def FnIsDecimalMatchesAutomatonWrongFalsely : Prop := fnIsDecimalMatchesAutomatonRow.holds Try.pinned (OpenSpec.ofChange fnIsDecimalMatchesAutomatonWrong)

/-- 'zzlaws_value_b1.FnIsDecimalSplitsAtExponent': WHATEVER THE INPUT: true; the input reads as it did. -/
def fnIsDecimalSplitsAtExponentSpec : ChangeSpec := { name := "fnIsDecimalSplitsAtExponent", fn := fun _ => fun
  | [d1, d2] => { results := [.lit (.bool true)], args := [d1, d2] }
  | _ => none }
def fnIsDecimalSplitsAtExponentRow : OpenClaim := { program := "qxb6618080a", sum := "234bdaeda1d49217fe611444f7c220d3cc8c79ebf3d98537f864c1276924eccf", func := "example.com/rowform/rowform/zzlaws_value_b1.FnIsDecimalSplitsAtExponent", spec := "fnIsDecimalSplitsAtExponent", unfollowed := true, recurses := true, apart := false }
def FnIsDecimalSplitsAtExponentSaid : Prop := fnIsDecimalSplitsAtExponentRow.holds Try.pinned (OpenSpec.ofChange fnIsDecimalSplitsAtExponentSpec)

/-- ITS FALSE NEIGHBOUR: 'it returns false'. Refute it at one input. -/
def fnIsDecimalSplitsAtExponentWrong : ChangeSpec := { name := "fnIsDecimalSplitsAtExponent", fn := fun _ => fun
  | [d1, d2] => { results := [.lit (.bool false)], args := [d1, d2] }
  | _ => none }
def FnIsDecimalSplitsAtExponentWrongFalsely : Prop := fnIsDecimalSplitsAtExponentRow.holds Try.pinned (OpenSpec.ofChange fnIsDecimalSplitsAtExponentWrong)

/-- 'zzlaws_value_b1.FnIsDecimalSignPrefix': WHATEVER THE INPUT: true; the input reads as it did. -/
def fnIsDecimalSignPrefixSpec : ChangeSpec := { name := "fnIsDecimalSignPrefix", fn := fun _ => fun
  | [d] => { results := [.lit (.bool true)], args := [d] }
  | _ => none }
def fnIsDecimalSignPrefixRow : OpenClaim := { program := "qxb6618080a", sum := "234bdaeda1d49217fe611444f7c220d3cc8c79ebf3d98537f864c1276924eccf", func := "example.com/rowform/rowform/zzlaws_value_b1.FnIsDecimalSignPrefix", spec := "fnIsDecimalSignPrefix", unfollowed := true, recurses := true, apart := false }
def FnIsDecimalSignPrefixSaid : Prop := fnIsDecimalSignPrefixRow.holds Try.pinned (OpenSpec.ofChange fnIsDecimalSignPrefixSpec)

/-- ITS FALSE NEIGHBOUR: 'it returns false'. Refute it at one input. -/
def fnIsDecimalSignPrefixWrong : ChangeSpec := { name := "fnIsDecimalSignPrefix", fn := fun _ => fun
  | [d] => { results := [.lit (.bool false)], args := [d] }
  | _ => none }
def FnIsDecimalSignPrefixWrongFalsely : Prop := fnIsDecimalSignPrefixRow.holds Try.pinned (OpenSpec.ofChange fnIsDecimalSignPrefixWrong)

end Rows
end Go.Proofs.Qxb6618080a
