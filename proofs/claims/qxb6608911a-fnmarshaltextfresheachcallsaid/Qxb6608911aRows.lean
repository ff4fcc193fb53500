/-
  No cell of these rows narrows 'for every input' (looked for: loops, veiled, ifaces, maps, wideKeys, modest, calm, conditions, laid).
  DERIVED. THE GIVEN ROWS OF THIS SEAT. 3 by the template 'for every input the law returns true; each argument reads behind the call as it read before'; 0 by the template 'total and deterministic' (their statements: Qxb6608911aTotals.lean).
  GIVEN WITH THE SEED: the statements are not yours to turn. If you find one false, say at which input.
  Laid BY PROGRAM, IN A SANDBOX (cutbox-rows.mjs): the forced cells as the released guide's own fill.sh prints them over the translation ea24a9e3f28f97ac… (all of the seat's roots in one cut). By AI agents, Wed Nov 11 2026. No macro, syntax, notation, axiom, sorry.
-/
import Derived.Test.Qxb6608911aChecked
import GoSem.Claim
import GoSem.ClaimJoined
import GoSem.ClaimMapViews
import Derived.JoinedTies
import Derived.KernelRfl
namespace Go.Proofs.Qxb6608911a
/- THE CELL 'sum', in the pinned program and in every row, IS THE sha256 OF THE DUMP (.gsa) THAT Qxb6608911aProg.lean LOADS. Nothing in Lean hashes anything: it is a label: what it is worth is what the hold of that sum in a sandbox is worth. -/
noncomputable def Try.pinned : Pinned := { name := "qxb6608911a", sum := "ea24a9e3f28f97ac98ce3ed4a78a77348350759cca4c0e1667092a23898bf78b", checked := Try.checked }
namespace Rows
def none {H : Type} : Left H := { results := [], args := [] }

/-- 'zzlaws_root_b1.FnMarshalTextFreshEachCall': WHATEVER THE INPUT: true; the input reads as it did. -/
def fnMarshalTextFreshEachCallSpec : ChangeSpec := { name := "fnMarshalTextFreshEachCall", fn := fun _ => fun
  | [d] => { results := [.lit (.bool true)], args := [d] }
  | _ => none }
def fnMarshalTextFreshEachCallRow : OpenClaim := { program := "qxb6608911a", sum := "ea24a9e3f28f97ac98ce3ed4a78a77348350759cca4c0e1667092a23898bf78b", func := "example.com/tradecraft/tradecraft/zzlaws_root_b1.FnMarshalTextFreshEachCall", spec := "fnMarshalTextFreshEachCall", apart := false }
def FnMarshalTextFreshEachCallSaid : Prop := fnMarshalTextFreshEachCallRow.holds Try.pinned (OpenSpec.ofChange fnMarshalTextFreshEachCallSpec)

/-- ITS FALSE NEIGHBOUR: 'it returns false'. Refute it at one input. -/
def fnMarshalTextFreshEachCallWrong : ChangeSpec := { name := "fnMarshalTextFreshEachCall", fn := fun _ => fun
  | [d] => { results := [.lit (.bool false)], args := [d] }
  | _ => none }
def FnMarshalTextFreshEachCallWrongFalsely : Prop := fnMarshalTextFreshEachCallRow.holds Try.pinned (OpenSpec.ofChange fnMarshalTextFreshEachCallWrong)

/-- 'zzlaws_root_b1.FnLineCountJoinAndStarts': WHATEVER THE INPUT: true; the input reads as it did. -/
def fnLineCountJoinAndStartsSpec : ChangeSpec := { name := "fnLineCountJoinAndStarts", fn := fun _ => fun
  | [d1, d2] => { results := [.lit (.bool true)], args := [d1, d2] }
  | _ => none }
def fnLineCountJoinAndStartsRow : OpenClaim := { program := "qxb6608911a", sum := "ea24a9e3f28f97ac98ce3ed4a78a77348350759cca4c0e1667092a23898bf78b", func := "example.com/tradecraft/tradecraft/zzlaws_root_b1.FnLineCountJoinAndStarts", spec := "fnLineCountJoinAndStarts", inPlace := ["internal/bytealg.Count", "internal/bytealg.IndexByte", "internal/bytealg.Index"], named := ["internal/bytealg.MaxLen"], apart := false }
def FnLineCountJoinAndStartsSaid : Prop := fnLineCountJoinAndStartsRow.holds Try.pinned (OpenSpec.ofChange fnLineCountJoinAndStartsSpec)

/-- ITS FALSE NEIGHBOUR: 'it returns false'. Refute it at one input. -/
def fnLineCountJoinAndStartsWrong : ChangeSpec := { name := "fnLineCountJoinAndStarts", fn := fun _ => fun
  | [d1, d2] => { results := [.lit (.bool false)], args := [d1, d2] }
  | _ => none }
def FnLineCountJoinAndStartsWrongFalsely : Prop := fnLineCountJoinAndStartsRow.holds Try.pinned (OpenSpec.ofChange fnLineCountJoinAndStartsWrong)

/-- 'zzlaws_root_b1.FnLineCountIsCutLineSteps': WHATEVER THE INPUT: true; the input reads as it did. -/
def fnLineCountIsCutLineStepsSpec : ChangeSpec := { name := "fnLineCountIsCutLineSteps", fn := fun _ => fun
  | [d] => { results := [.lit (.bool true)], args := [d] }
  | _ => none }
def fnLineCountIsCutLineStepsRow : OpenClaim := { program := "qxb6608911a", sum := "ea24a9e3f28f97ac98ce3ed4a78a77348350759cca4c0e1667092a23898bf78b", func := "example.com/tradecraft/tradecraft/zzlaws_root_b1.FnLineCountIsCutLineSteps", spec := "fnLineCountIsCutLineSteps", inPlace := ["internal/bytealg.IndexByte", "internal/bytealg.Index", "internal/bytealg.Count"], named := ["internal/bytealg.MaxLen"], apart := false }
def FnLineCountIsCutLineStepsSaid : Prop := fnLineCountIsCutLineStepsRow.holds Try.pinned (OpenSpec.ofChange fnLineCountIsCutLineStepsSpec)

/-- ITS FALSE NEIGHBOUR: 'it returns false'. Refute it at one input. -/
def fnLineCountIsCutLineStepsWrong : ChangeSpec := { name := "fnLineCountIsCutLineSteps", fn := fun _ => fun
  | [d] => { results := [.lit (.bool false)], args := [d] }
  | _ => none }
def FnLineCountIsCutLineStepsWrongFalsely : Prop := fnLineCountIsCutLineStepsRow.holds Try.pinned (OpenSpec.ofChange fnLineCountIsCutLineStepsWrong)

end Rows
end Go.Proofs.Qxb6608911a
