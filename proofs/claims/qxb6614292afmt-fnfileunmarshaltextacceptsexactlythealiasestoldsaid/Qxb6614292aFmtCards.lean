/-
  DERIVED. GIVEN WITH THE SEED: THE CARDS: each row of Qxb6614292aFmtRows.lean that lists a variable, with what it lists TIED to the program's text (the seventh form; the later family's looks); each row that meets fmt, with fmt's text TOLD by the authors' own Lean function (tested against real Go, not proved from fmt's source: count such statements apart). THE CARD IS WHAT COUNTS. Prove the row's statement (the work); the ties are given (Qxb6614292aFmtTie.lean); close each card by the builder's one call (the guide's Derived/Test/ToyasCard.lean, 'card_holds'). Laid BY PROGRAM, IN A SANDBOX (cutbox-door.mjs). By AI agents, Wed Nov 11 2026. No macro, syntax, notation, axiom, sorry.
-/
import Derived.Test.Qxb6614292aFmtRows
import GoSem.ClaimSeven
namespace Go.Proofs.Qxb6614292aFmt
namespace Rows

/-- THE TOLD AND TIED CARD OF 'zzlaws_internal_replica_b1.FnFileStringUnmarshalRoundTrip'. -/
def fnFileStringUnmarshalRoundTripCard : Claim7 := { stood := { row := fnFileStringUnmarshalRoundTripRow, standIns := [], harness := (true, "f517d2a7f28a034d877639e0974902f90b2a29126da22111603c76c90c834d96"), looks := false }, told := true, laidByText := true, laidKinds := [.sentinel, .widerDeep], laidTests := true, laidLooks := .later, goes := false }
def FnFileStringUnmarshalRoundTripToldSaid : Prop := Claim7.holds Tryf.pinned (.plain (OpenSpec.ofChange fnFileStringUnmarshalRoundTripSpec)) fnFileStringUnmarshalRoundTripCard
/-- ITS FALSE NEIGHBOUR. Refute it at one input. -/
def FnFileStringUnmarshalRoundTripToldWrongFalsely : Prop := Claim7.holds Tryf.pinned (.plain (OpenSpec.ofChange fnFileStringUnmarshalRoundTripWrong)) fnFileStringUnmarshalRoundTripCard

/-- THE TOLD AND TIED CARD OF 'zzlaws_internal_replica_b1.FnFileUnmarshalTextAcceptsExactlyTheAliases'. -/
def fnFileUnmarshalTextAcceptsExactlyTheAliasesCard : Claim7 := { stood := { row := fnFileUnmarshalTextAcceptsExactlyTheAliasesRow, standIns := [], harness := (true, "f517d2a7f28a034d877639e0974902f90b2a29126da22111603c76c90c834d96"), looks := false }, told := true, laidByText := true, laidKinds := [.sentinel, .widerDeep], laidTests := true, laidLooks := .later, goes := false }
def FnFileUnmarshalTextAcceptsExactlyTheAliasesToldSaid : Prop := Claim7.holds Tryf.pinned (.plain (OpenSpec.ofChange fnFileUnmarshalTextAcceptsExactlyTheAliasesSpec)) fnFileUnmarshalTextAcceptsExactlyTheAliasesCard
/-- ITS FALSE NEIGHBOUR. Refute it at one input. -/
def FnFileUnmarshalTextAcceptsExactlyTheAliasesToldWrongFalsely : Prop := Claim7.holds Tryf.pinned (.plain (OpenSpec.ofChange fnFileUnmarshalTextAcceptsExactlyTheAliasesWrong)) fnFileUnmarshalTextAcceptsExactlyTheAliasesCard
end Rows
end Go.Proofs.Qxb6614292aFmt
