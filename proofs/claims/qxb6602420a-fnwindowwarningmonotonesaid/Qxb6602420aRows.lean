/-
  No cell of these rows narrows 'for every input' (looked for: loops, veiled, ifaces, maps, wideKeys, modest, calm, conditions, laid).
  DERIVED. THE GIVEN ROWS OF THIS SEAT. 3 by the template 'for every input the law returns true; each argument reads behind the call as it read before'; 0 by the template 'total and deterministic' (their statements: Qxb6602420aTotals.lean).
  GIVEN WITH THE SEED: the statements are not yours to turn. If you find one false, say at which input.
  Laid BY PROGRAM, IN A SANDBOX (cutbox-rows.mjs): the forced cells as the released guide's own fill.sh prints them over the translation 2f9dca89e6c0278b… (all of the seat's roots in one cut). By AI agents, Wed Nov 11 2026. No macro, syntax, notation, axiom, sorry.
-/
import Derived.Test.Qxb6602420aChecked
import GoSem.Claim
import GoSem.ClaimJoined
import GoSem.ClaimMapViews
import Derived.JoinedTies
import Derived.KernelRfl
namespace Go.Proofs.Qxb6602420a
/- THE CELL 'sum', in the pinned program and in every row, IS THE sha256 OF THE DUMP (.gsa) THAT Qxb6602420aProg.lean LOADS. Nothing in Lean hashes anything: it is a label: what it is worth is what the hold of that sum in a sandbox is worth. -/
noncomputable def Try.pinned : Pinned := { name := "qxb6602420a", sum := "2f9dca89e6c0278be4ed81b43d1547efb91eb03069b47052e20215631133039f", checked := Try.checked }
namespace Rows
def none {H : Type} : Left H := { results := [], args := [] }

/-- 'zzlaws_rules_b1.FnWindowWarningSpec': WHATEVER THE INPUT: true; the input reads as it did. -/
def fnWindowWarningSpecSpec : ChangeSpec := { name := "fnWindowWarningSpec", fn := fun _ => fun
  | [d1, d2] => { results := [.lit (.bool true)], args := [d1, d2] }
  | _ => none }
def fnWindowWarningSpecRow : OpenClaim := { program := "qxb6602420a", sum := "2f9dca89e6c0278be4ed81b43d1547efb91eb03069b47052e20215631133039f", func := "example.com/allotment/allotment/zzlaws_rules_b1.FnWindowWarningSpec", spec := "fnWindowWarningSpec", apart := false }
def FnWindowWarningSpecSaid : Prop := fnWindowWarningSpecRow.holds Try.pinned (OpenSpec.ofChange fnWindowWarningSpecSpec)

/-- ITS FALSE NEIGHBOUR: 'it returns false'. Refute it at one input. -/
def fnWindowWarningSpecWrong : ChangeSpec := { name := "fnWindowWarningSpec", fn := fun _ => fun
  | [d1, d2] => { results := [.lit (.bool false)], args := [d1, d2] }
  | _ => none }
def FnWindowWarningSpecWrongFalsely : Prop := fnWindowWarningSpecRow.holds Try.pinned (OpenSpec.ofChange fnWindowWarningSpecWrong)

/-- 'zzlaws_rules_b1.FnWindowWarningMonotone': WHATEVER THE INPUT: true; the input reads as it did. -/
def fnWindowWarningMonotoneSpec : ChangeSpec := { name := "fnWindowWarningMonotone", fn := fun _ => fun
  | [d1, d2, d3] => { results := [.lit (.bool true)], args := [d1, d2, d3] }
  | _ => none }
def fnWindowWarningMonotoneRow : OpenClaim := { program := "qxb6602420a", sum := "2f9dca89e6c0278be4ed81b43d1547efb91eb03069b47052e20215631133039f", func := "example.com/allotment/allotment/zzlaws_rules_b1.FnWindowWarningMonotone", spec := "fnWindowWarningMonotone", apart := false }
def FnWindowWarningMonotoneSaid : Prop := fnWindowWarningMonotoneRow.holds Try.pinned (OpenSpec.ofChange fnWindowWarningMonotoneSpec)

/-- ITS FALSE NEIGHBOUR: 'it returns false'. Refute it at one input. -/
def fnWindowWarningMonotoneWrong : ChangeSpec := { name := "fnWindowWarningMonotone", fn := fun _ => fun
  | [d1, d2, d3] => { results := [.lit (.bool false)], args := [d1, d2, d3] }
  | _ => none }
def FnWindowWarningMonotoneWrongFalsely : Prop := fnWindowWarningMonotoneRow.holds Try.pinned (OpenSpec.ofChange fnWindowWarningMonotoneWrong)

/-- 'zzlaws_rules_b1.FnDrawAntitoneInPrice': WHATEVER THE INPUT: true; the input reads as it did. -/
def fnDrawAntitoneInPriceSpec : ChangeSpec := { name := "fnDrawAntitoneInPrice", fn := fun _ => fun
  | [d1, d2, d3, d4, d5, d6] => { results := [.lit (.bool true)], args := [d1, d2, d3, d4, d5, d6] }
  | _ => none }
def fnDrawAntitoneInPriceRow : OpenClaim := { program := "qxb6602420a", sum := "2f9dca89e6c0278be4ed81b43d1547efb91eb03069b47052e20215631133039f", func := "example.com/allotment/allotment/zzlaws_rules_b1.FnDrawAntitoneInPrice", spec := "fnDrawAntitoneInPrice", apart := false }
def FnDrawAntitoneInPriceSaid : Prop := fnDrawAntitoneInPriceRow.holds Try.pinned (OpenSpec.ofChange fnDrawAntitoneInPriceSpec)

/-- ITS FALSE NEIGHBOUR: 'it returns false'. Refute it at one input. -/
def fnDrawAntitoneInPriceWrong : ChangeSpec := { name := "fnDrawAntitoneInPrice", fn := fun _ => fun
  | [d1, d2, d3, d4, d5, d6] => { results := [.lit (.bool false)], args := [d1, d2, d3, d4, d5, d6] }
  | _ => none }
def FnDrawAntitoneInPriceWrongFalsely : Prop := fnDrawAntitoneInPriceRow.holds Try.pinned (OpenSpec.ofChange fnDrawAntitoneInPriceWrong)

end Rows
end Go.Proofs.Qxb6602420a
