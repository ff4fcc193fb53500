/-
  No cell of these rows narrows 'for every input' (looked for: loops, veiled, ifaces, maps, wideKeys, modest, calm, conditions, laid).
  DERIVED. THE GIVEN ROWS OF THIS SEAT. 1 by the template 'for every input the law returns true; each argument reads behind the call as it read before'; 0 by the template 'total and deterministic' (their statements: Qxb6608814aTotals.lean).
  GIVEN WITH THE SEED: the statements are not yours to turn. If you find one false, say at which input.
  Laid BY PROGRAM, IN A SANDBOX (cutbox-rows.mjs): the forced cells as the released guide's own fill.sh prints them over the translation f2b3096d1c663208… (all of the seat's roots in one cut). By AI agents, Wed Nov 11 2026. No macro, syntax, notation, axiom, sorry.
-/
import Derived.Test.Qxb6608814aChecked
import GoSem.Claim
import GoSem.ClaimJoined
import GoSem.ClaimMapViews
import Derived.JoinedTies
import Derived.KernelRfl
namespace Go.Proofs.Qxb6608814a
/- THE CELL 'sum', in the pinned program and in every row, IS THE sha256 OF THE DUMP (.gsa) THAT Qxb6608814aProg.lean LOADS. Nothing in Lean hashes anything: it is a label: what it is worth is what the hold of that sum in a sandbox is worth. -/
noncomputable def Try.pinned : Pinned := { name := "qxb6608814a", sum := "f2b3096d1c6632083e9a3798a1547c2d6b152172bd1edf358bc93829ab9fe593", checked := Try.checked }
namespace Rows
def none {H : Type} : Left H := { results := [], args := [] }

/-- 'zzlaws_internal_config_b1.FnLimitSecondsGrowsASecondAUnitUpToItsCeiling': WHATEVER THE INPUT: true; the input reads as it did. -/
def fnLimitSecondsGrowsASecondAUnitUpToItsCeilingSpec : ChangeSpec := { name := "fnLimitSecondsGrowsASecondAUnitUpToItsCeiling", fn := fun _ => fun
  | [d1, d2, d3, d4, d5, d6] => { results := [.lit (.bool true)], args := [d1, d2, d3, d4, d5, d6] }
  | _ => none }
def fnLimitSecondsGrowsASecondAUnitUpToItsCeilingRow : OpenClaim := { program := "qxb6608814a", sum := "f2b3096d1c6632083e9a3798a1547c2d6b152172bd1edf358bc93829ab9fe593", func := "example.com/switchyard/switchyard/zzlaws_internal_config_b1.FnLimitSecondsGrowsASecondAUnitUpToItsCeiling", spec := "fnLimitSecondsGrowsASecondAUnitUpToItsCeiling", apart := false }
def FnLimitSecondsGrowsASecondAUnitUpToItsCeilingSaid : Prop := fnLimitSecondsGrowsASecondAUnitUpToItsCeilingRow.holds Try.pinned (OpenSpec.ofChange fnLimitSecondsGrowsASecondAUnitUpToItsCeilingSpec)

/-- ITS FALSE NEIGHBOUR: 'it returns false'. Refute it at one input. -/
def fnLimitSecondsGrowsASecondAUnitUpToItsCeilingWrong : ChangeSpec := { name := "fnLimitSecondsGrowsASecondAUnitUpToItsCeiling", fn := fun _ => fun
  | [d1, d2, d3, d4, d5, d6] => { results := [.lit (.bool false)], args := [d1, d2, d3, d4, d5, d6] }
  | _ => none }
def FnLimitSecondsGrowsASecondAUnitUpToItsCeilingWrongFalsely : Prop := fnLimitSecondsGrowsASecondAUnitUpToItsCeilingRow.holds Try.pinned (OpenSpec.ofChange fnLimitSecondsGrowsASecondAUnitUpToItsCeilingWrong)

end Rows
end Go.Proofs.Qxb6608814a
