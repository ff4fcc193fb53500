/-
  NARROWER THAN 'FOR EVERY INPUT', by the rows' own cells (each row's printed sentence says how): FnFileStringUnmarshalRoundTrip: ifaces, laid · FnFileUnmarshalTextAcceptsExactlyTheAliases: ifaces, laid.
  DERIVED. THE GIVEN ROWS OF THIS SEAT. 2 by the template 'for every input the law returns true; each argument reads behind the call as it read before'; 0 by the template 'total and deterministic' (their statements: Qxb6614292aFmtTotals.lean).
  GIVEN WITH THE SEED: the statements are not yours to turn. If you find one false, say at which input.
  Laid BY PROGRAM, IN A SANDBOX (cutbox-rows.mjs): the forced cells as the released guide's own fill.sh prints them over the translation 2ec9540f19809709… (all of the seat's roots in one cut). By AI agents, Wed Nov 11 2026. No macro, syntax, notation, axiom, sorry.
-/
import Derived.Test.Qxb6614292aFmtChecked
import GoSem.Claim
import GoSem.ClaimJoined
import GoSem.ClaimMapViews
import Derived.JoinedTies
import Derived.KernelRfl
namespace Go.Proofs.Qxb6614292aFmt
/- THE CELL 'sum', in the pinned program and in every row, IS THE sha256 OF THE DUMP (.gsa) THAT Qxb6614292aFmtProg.lean LOADS. Nothing in Lean hashes anything: it is a label: what it is worth is what the hold of that sum in a sandbox is worth. -/
noncomputable def Tryf.pinned : Pinned := { name := "qxb6614292afmt", sum := "2ec9540f19809709b9adfc6741c2f401131e85fa58ae81c31b1cc44bd6d29805", checked := Tryf.checked }
namespace Rows
def none {H : Type} : Left H := { results := [], args := [] }

/- WHAT THE LISTED PACKAGE-LEVEL VARIABLES READ AS WHEN THE CALL BEGINS. Each datum BY PROGRAM (the guide's laid-datum.mjs) off the statement by which the dump's own 'gosem.cut.vars' lays the variable. In a bare row this is a premise. The card (Qxb6614292aFmtCards.lean) ties it to the program's text. -/
def laid_example_com_driftgate_driftgate_internal_replica_ErrUnknownFileAlias {H : Type} : DataW H := .iface "*errors.errorString" (.ptr (.agg [.lit (.string [117, 110, 107, 110, 111, 119, 110, 32, 102, 105, 108, 101, 32, 97, 108, 105, 97, 115])]))
def laid_example_com_driftgate_driftgate_internal_replica_fileNames {H : Type} : DataW H := .slice [.lit (.string [99, 108, 97, 117, 100, 101]), .lit (.string [97, 103, 101, 110, 116, 115]), .lit (.string [111, 114, 103]), .lit (.string [109, 101, 116, 104, 111, 100])] []

/-- 'zzlaws_internal_replica_b1.FnFileStringUnmarshalRoundTrip': WHATEVER THE INPUT: true; the input reads as it did. -/
def fnFileStringUnmarshalRoundTripSpec : ChangeSpec := { name := "fnFileStringUnmarshalRoundTrip", vars := ["example.com/driftgate/driftgate/internal/replica.fileNames", "example.com/driftgate/driftgate/internal/replica.ErrUnknownFileAlias"], fn := fun _ => fun
  | [d1, d2, g1, g2] => { results := [.lit (.bool true)], args := [d1, d2], vars := [g1, g2] }
  | _ => none }
def fnFileStringUnmarshalRoundTripRow : OpenClaim := { program := "qxb6614292afmt", sum := "2ec9540f19809709b9adfc6741c2f401131e85fa58ae81c31b1cc44bd6d29805", func := "example.com/driftgate/driftgate/zzlaws_internal_replica_b1.FnFileStringUnmarshalRoundTrip", spec := "fnFileStringUnmarshalRoundTrip", stops := ["fmt.Sprintf", "fmt.errorf"], inPlace := ["fmt.Sprintf", "internal/abi.NoEscape", "internal/bytealg.MakeNoZero", "fmt.errorf"], named := ["example.com/driftgate/driftgate/internal/replica.fileNames", "example.com/driftgate/driftgate/internal/replica.ErrUnknownFileAlias"], ifaces := true, apart := false, laid := [("example.com/driftgate/driftgate/internal/replica.ErrUnknownFileAlias", laid_example_com_driftgate_driftgate_internal_replica_ErrUnknownFileAlias), ("example.com/driftgate/driftgate/internal/replica.fileNames", laid_example_com_driftgate_driftgate_internal_replica_fileNames)] }
/-- NO THEOREM (fmt's text is open here; it may be false): for the released tool's asking of the row's closed facts alone. THE STATEMENT IS 'FnFileStringUnmarshalRoundTripToldSaid' (Qxb6614292aFmtCards.lean). -/
def FnFileStringUnmarshalRoundTripFormAsk : Prop := fnFileStringUnmarshalRoundTripRow.holds Tryf.pinned (OpenSpec.ofChange fnFileStringUnmarshalRoundTripSpec)

/-- ITS FALSE NEIGHBOUR: 'it returns false'. Refute it at one input. -/
def fnFileStringUnmarshalRoundTripWrong : ChangeSpec := { name := "fnFileStringUnmarshalRoundTrip", vars := ["example.com/driftgate/driftgate/internal/replica.fileNames", "example.com/driftgate/driftgate/internal/replica.ErrUnknownFileAlias"], fn := fun _ => fun
  | [d1, d2, g1, g2] => { results := [.lit (.bool false)], args := [d1, d2], vars := [g1, g2] }
  | _ => none }
def FnFileStringUnmarshalRoundTripWrongFormAsk : Prop := fnFileStringUnmarshalRoundTripRow.holds Tryf.pinned (OpenSpec.ofChange fnFileStringUnmarshalRoundTripWrong)

/-- 'zzlaws_internal_replica_b1.FnFileUnmarshalTextAcceptsExactlyTheAliases': WHATEVER THE INPUT: true; the input reads as it did. -/
def fnFileUnmarshalTextAcceptsExactlyTheAliasesSpec : ChangeSpec := { name := "fnFileUnmarshalTextAcceptsExactlyTheAliases", vars := ["example.com/driftgate/driftgate/internal/replica.fileNames", "example.com/driftgate/driftgate/internal/replica.ErrUnknownFileAlias"], fn := fun _ => fun
  | [d1, d2, g1, g2] => { results := [.lit (.bool true)], args := [d1, d2], vars := [g1, g2] }
  | _ => none }
def fnFileUnmarshalTextAcceptsExactlyTheAliasesRow : OpenClaim := { program := "qxb6614292afmt", sum := "2ec9540f19809709b9adfc6741c2f401131e85fa58ae81c31b1cc44bd6d29805", func := "example.com/driftgate/driftgate/zzlaws_internal_replica_b1.FnFileUnmarshalTextAcceptsExactlyTheAliases", spec := "fnFileUnmarshalTextAcceptsExactlyTheAliases", stops := ["fmt.Sprintf", "fmt.errorf"], inPlace := ["fmt.Sprintf", "internal/abi.NoEscape", "internal/bytealg.MakeNoZero", "fmt.errorf"], named := ["example.com/driftgate/driftgate/internal/replica.fileNames", "example.com/driftgate/driftgate/internal/replica.ErrUnknownFileAlias"], ifaces := true, apart := false, laid := [("example.com/driftgate/driftgate/internal/replica.ErrUnknownFileAlias", laid_example_com_driftgate_driftgate_internal_replica_ErrUnknownFileAlias), ("example.com/driftgate/driftgate/internal/replica.fileNames", laid_example_com_driftgate_driftgate_internal_replica_fileNames)] }
/-- NO THEOREM (fmt's text is open here; it may be false): for the released tool's asking of the row's closed facts alone. THE STATEMENT IS 'FnFileUnmarshalTextAcceptsExactlyTheAliasesToldSaid' (Qxb6614292aFmtCards.lean). -/
def FnFileUnmarshalTextAcceptsExactlyTheAliasesFormAsk : Prop := fnFileUnmarshalTextAcceptsExactlyTheAliasesRow.holds Tryf.pinned (OpenSpec.ofChange fnFileUnmarshalTextAcceptsExactlyTheAliasesSpec)

/-- ITS FALSE NEIGHBOUR: 'it returns false'. Refute it at one input. -/
def fnFileUnmarshalTextAcceptsExactlyTheAliasesWrong : ChangeSpec := { name := "fnFileUnmarshalTextAcceptsExactlyTheAliases", vars := ["example.com/driftgate/driftgate/internal/replica.fileNames", "example.com/driftgate/driftgate/internal/replica.ErrUnknownFileAlias"], fn := fun _ => fun
  | [d1, d2, g1, g2] => { results := [.lit (.bool false)], args := [d1, d2], vars := [g1, g2] }
  | _ => none }
def FnFileUnmarshalTextAcceptsExactlyTheAliasesWrongFormAsk : Prop := fnFileUnmarshalTextAcceptsExactlyTheAliasesRow.holds Tryf.pinned (OpenSpec.ofChange fnFileUnmarshalTextAcceptsExactlyTheAliasesWrong)

end Rows
end Go.Proofs.Qxb6614292aFmt
