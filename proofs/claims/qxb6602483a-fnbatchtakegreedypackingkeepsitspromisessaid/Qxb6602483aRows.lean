/-
  No cell of these rows narrows 'for every input' (looked for: loops, veiled, ifaces, maps, wideKeys, modest, calm, conditions, laid).
  DERIVED. THE GIVEN ROWS OF THIS SEAT. 1 by the template 'for every input the law returns true; each argument reads behind the call as it read before'; 0 by the template 'total and deterministic' (their statements: Qxb6602483aTotals.lean).
  GIVEN WITH THE SEED: the statements are not yours to turn. If you find one false, say at which input.
  Laid BY PROGRAM, IN A SANDBOX (cutbox-rows.mjs): the forced cells as the released guide's own fill.sh prints them over the translation 86d9db4725e738d3… (all of the seat's roots in one cut). By AI agents, Wed Nov 11 2026. No macro, syntax, notation, axiom, sorry.
-/
import Derived.Test.Qxb6602483aChecked
import GoSem.Claim
import GoSem.ClaimJoined
import GoSem.ClaimMapViews
import Derived.JoinedTies
import Derived.KernelRfl
namespace Go.Proofs.Qxb6602483a
/- THE CELL 'sum', in the pinned program and in every row, IS THE sha256 OF THE DUMP (.gsa) THAT Qxb6602483aProg.lean LOADS. Nothing in Lean hashes anything: it is a label: what it is worth is what the hold of that sum in a sandbox is worth. -/
noncomputable def Try.pinned : Pinned := { name := "qxb6602483a", sum := "86d9db4725e738d3165526f87202228dff90ae756564659d2661ecb89bee2887", checked := Try.checked }
namespace Rows
def none {H : Type} : Left H := { results := [], args := [] }

/-- 'zzlaws_root_b1.FnBatchTakeGreedyPackingKeepsItsPromises': WHATEVER THE INPUT: true; the input reads as it did. -/
def fnBatchTakeGreedyPackingKeepsItsPromisesSpec : ChangeSpec := { name := "fnBatchTakeGreedyPackingKeepsItsPromises", fn := fun _ => fun
  | [d] => { results := [.lit (.bool true)], args := [d] }
  | _ => none }
def fnBatchTakeGreedyPackingKeepsItsPromisesRow : OpenClaim := { program := "qxb6602483a", sum := "86d9db4725e738d3165526f87202228dff90ae756564659d2661ecb89bee2887", func := "example.com/ringfinger/ringfinger/zzlaws_root_b1.FnBatchTakeGreedyPackingKeepsItsPromises", spec := "fnBatchTakeGreedyPackingKeepsItsPromises", apart := false }
def FnBatchTakeGreedyPackingKeepsItsPromisesSaid : Prop := fnBatchTakeGreedyPackingKeepsItsPromisesRow.holds Try.pinned (OpenSpec.ofChange fnBatchTakeGreedyPackingKeepsItsPromisesSpec)

/-- ITS FALSE NEIGHBOUR: 'it returns false'. Refute it at one input. -/
def fnBatchTakeGreedyPackingKeepsItsPromisesWrong : ChangeSpec := { name := "fnBatchTakeGreedyPackingKeepsItsPromises", fn := fun _ => fun
  | [d] => { results := [.lit (.bool false)], args := [d] }
  | _ => none }
def FnBatchTakeGreedyPackingKeepsItsPromisesWrongFalsely : Prop := fnBatchTakeGreedyPackingKeepsItsPromisesRow.holds Try.pinned (OpenSpec.ofChange fnBatchTakeGreedyPackingKeepsItsPromisesWrong)

end Rows
end Go.Proofs.Qxb6602483a
