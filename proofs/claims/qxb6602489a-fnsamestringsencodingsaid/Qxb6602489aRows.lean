/-
  No cell of these rows narrows 'for every input' (looked for: loops, veiled, ifaces, maps, wideKeys, modest, calm, conditions, laid).
  DERIVED. THE GIVEN ROWS OF THIS SEAT. 4 by the template 'for every input the law returns true; each argument reads behind the call as it read before'; 0 by the template 'total and deterministic' (their statements: Qxb6602489aTotals.lean).
  GIVEN WITH THE SEED: the statements are not yours to turn. If you find one false, say at which input.
  Laid BY PROGRAM, IN A SANDBOX (cutbox-rows.mjs): the forced cells as the released guide's own fill.sh prints them over the translation 3fbdefb71cd18eba… (all of the seat's roots in one cut). By AI agents, Wed Nov 11 2026. No macro, syntax, notation, axiom, sorry.
-/
import Derived.Test.Qxb6602489aChecked
import GoSem.Claim
import GoSem.ClaimJoined
import GoSem.ClaimMapViews
import Derived.JoinedTies
import Derived.KernelRfl
namespace Go.Proofs.Qxb6602489a
/- THE CELL 'sum', in the pinned program and in every row, IS THE sha256 OF THE DUMP (.gsa) THAT Qxb6602489aProg.lean LOADS. Nothing in Lean hashes anything: it is a label: what it is worth is what the hold of that sum in a sandbox is worth. -/
noncomputable def Try.pinned : Pinned := { name := "qxb6602489a", sum := "3fbdefb71cd18eba3bbfc0e4efcabd96d730f16ae1979330cbef934f7dd7e935", checked := Try.checked }
namespace Rows
def none {H : Type} : Left H := { results := [], args := [] }

/-- 'zzlaws_internal_discovery_b1.FnIsFqdnMinMaxModel': WHATEVER THE INPUT: true; the input reads as it did. -/
def fnIsFqdnMinMaxModelSpec : ChangeSpec := { name := "fnIsFqdnMinMaxModel", fn := fun _ => fun
  | [d] => { results := [.lit (.bool true)], args := [d] }
  | _ => none }
def fnIsFqdnMinMaxModelRow : OpenClaim := { program := "qxb6602489a", sum := "3fbdefb71cd18eba3bbfc0e4efcabd96d730f16ae1979330cbef934f7dd7e935", func := "example.com/peerhoard/peerhoard/zzlaws_internal_discovery_b1.FnIsFqdnMinMaxModel", spec := "fnIsFqdnMinMaxModel", apart := false }
def FnIsFqdnMinMaxModelSaid : Prop := fnIsFqdnMinMaxModelRow.holds Try.pinned (OpenSpec.ofChange fnIsFqdnMinMaxModelSpec)

/-- ITS FALSE NEIGHBOUR: 'it returns false'. Refute it at one input. -/
def fnIsFqdnMinMaxModelWrong : ChangeSpec := { name := "fnIsFqdnMinMaxModel", fn := fun _ => fun
  | [d] => { results := [.lit (.bool false)], args := [d] }
  | _ => none }
def FnIsFqdnMinMaxModelWrongFalsely : Prop := fnIsFqdnMinMaxModelRow.holds Try.pinned (OpenSpec.ofChange fnIsFqdnMinMaxModelWrong)

/-- 'zzlaws_internal_discovery_b1.FnIsFqdnConcat': WHATEVER THE INPUT: true; the input reads as it did. -/
def fnIsFqdnConcatSpec : ChangeSpec := { name := "fnIsFqdnConcat", fn := fun _ => fun
  | [d1, d2] => { results := [.lit (.bool true)], args := [d1, d2] }
  | _ => none }
def fnIsFqdnConcatRow : OpenClaim := { program := "qxb6602489a", sum := "3fbdefb71cd18eba3bbfc0e4efcabd96d730f16ae1979330cbef934f7dd7e935", func := "example.com/peerhoard/peerhoard/zzlaws_internal_discovery_b1.FnIsFqdnConcat", spec := "fnIsFqdnConcat", apart := false }
def FnIsFqdnConcatSaid : Prop := fnIsFqdnConcatRow.holds Try.pinned (OpenSpec.ofChange fnIsFqdnConcatSpec)

/-- ITS FALSE NEIGHBOUR: 'it returns false'. Refute it at one input. -/
def fnIsFqdnConcatWrong : ChangeSpec := { name := "fnIsFqdnConcat", fn := fun _ => fun
  | [d1, d2] => { results := [.lit (.bool false)], args := [d1, d2] }
  | _ => none }
def FnIsFqdnConcatWrongFalsely : Prop := fnIsFqdnConcatRow.holds Try.pinned (OpenSpec.ofChange fnIsFqdnConcatWrong)

/-- 'zzlaws_internal_discovery_b1.FnSameStringsEncoding': WHATEVER THE INPUT: true; the input reads as it did. -/
def fnSameStringsEncodingSpec : ChangeSpec := { name := "fnSameStringsEncoding", fn := fun _ => fun
  | [d1, d2] => { results := [.lit (.bool true)], args := [d1, d2] }
  | _ => none }
def fnSameStringsEncodingRow : OpenClaim := { program := "qxb6602489a", sum := "3fbdefb71cd18eba3bbfc0e4efcabd96d730f16ae1979330cbef934f7dd7e935", func := "example.com/peerhoard/peerhoard/zzlaws_internal_discovery_b1.FnSameStringsEncoding", spec := "fnSameStringsEncoding", apart := false }
def FnSameStringsEncodingSaid : Prop := fnSameStringsEncodingRow.holds Try.pinned (OpenSpec.ofChange fnSameStringsEncodingSpec)

/-- ITS FALSE NEIGHBOUR: 'it returns false'. Refute it at one input. -/
def fnSameStringsEncodingWrong : ChangeSpec := { name := "fnSameStringsEncoding", fn := fun _ => fun
  | [d1, d2] => { results := [.lit (.bool false)], args := [d1, d2] }
  | _ => none }
def FnSameStringsEncodingWrongFalsely : Prop := fnSameStringsEncodingRow.holds Try.pinned (OpenSpec.ofChange fnSameStringsEncodingWrong)

/-- 'zzlaws_internal_discovery_b1.FnSameStringsAppendCancel': WHATEVER THE INPUT: true; the input reads as it did. -/
def fnSameStringsAppendCancelSpec : ChangeSpec := { name := "fnSameStringsAppendCancel", fn := fun _ => fun
  | [d1, d2, d3, d4] => { results := [.lit (.bool true)], args := [d1, d2, d3, d4] }
  | _ => none }
def fnSameStringsAppendCancelRow : OpenClaim := { program := "qxb6602489a", sum := "3fbdefb71cd18eba3bbfc0e4efcabd96d730f16ae1979330cbef934f7dd7e935", func := "example.com/peerhoard/peerhoard/zzlaws_internal_discovery_b1.FnSameStringsAppendCancel", spec := "fnSameStringsAppendCancel", apart := false }
def FnSameStringsAppendCancelSaid : Prop := fnSameStringsAppendCancelRow.holds Try.pinned (OpenSpec.ofChange fnSameStringsAppendCancelSpec)

/-- ITS FALSE NEIGHBOUR: 'it returns false'. Refute it at one input. -/
def fnSameStringsAppendCancelWrong : ChangeSpec := { name := "fnSameStringsAppendCancel", fn := fun _ => fun
  | [d1, d2, d3, d4] => { results := [.lit (.bool false)], args := [d1, d2, d3, d4] }
  | _ => none }
def FnSameStringsAppendCancelWrongFalsely : Prop := fnSameStringsAppendCancelRow.holds Try.pinned (OpenSpec.ofChange fnSameStringsAppendCancelWrong)

end Rows
end Go.Proofs.Qxb6602489a
