/-
  FROM THE ROW's LIST TO WHAT THE WALKS ASK ('of_laid'), and a start that meets the list ('door_met': the heap that the door's own run leaves).
-/
import Derived.Test.Qxb6614292aFmtRtWalk
import Derived.ProofKit
import Derived.OpenShut
import Derived.LaidMore
import Derived.Stop.LaidErr
import Derived.Stop.Joined
import Derived.MakeChecks
namespace Go.Proofs.Qxb6614292aFmt.Al
open Go.ChangeShapes Go.WideShapes Go.ChangeAt Go.RowKit

theorem own : ownKnob Tryf.prog.godebug = none := by kernel_rfl
theorem laidOut : laidOutB Tryf.prog = true := by kernel_rfl
/-- The two variables' names, and the sentinel's type's name, off the given row (a string of a proof's text bears no slash and no star). -/
def nNames : String := Rows.fnFileStringUnmarshalRoundTripSpec.vars.getD 0 ""
def nBad : String := Rows.fnFileStringUnmarshalRoundTripSpec.vars.getD 1 ""
def tyName (d : DataW Unit) : String := match d with
  | .iface n _ => n
  | _ => ""
def tyBad : String := tyName Rows.laid_example_com_driftgate_driftgate_internal_replica_ErrUnknownFileAlias
theorem gNames : Tryf.prog.globalNamed nNames = some 0 := by kernel_rfl
theorem gBad : Tryf.prog.globalNamed nBad = some 1 := by kernel_rfl
theorem tNames : (Tryf.prog.globals[0]?).map (·.type) = some 31 := by kernel_rfl
theorem tBad : (Tryf.prog.globals[1]?).map (·.type) = some 26 := by kernel_rfl
theorem row47 (u : TypeId) (h : Tryf.prog.typeName? 3 u = some tyBad) : u = 47 := by
  refine typeName_ptr_named (P := Tryf.prog) (nm := "errors.errorString") (by kernel_rfl) (by kernel_rfl) (by decide) u ?_
  exact h.trans (congrArg some (of_decide_eq_true (by kernel_rfl)))

/-- The list that both rows bear. -/
def list2 : List (String × DataW Unit) := Rows.fnFileStringUnmarshalRoundTripRow.laid

theorem bytes_one (s t : ByteArray) (h : s.data.toList = t.data.toList) : s = t := by
  cases s
  cases t
  simp at h
  simp [h]

theorem block_lt {W : World} {a : Addr} {v : Value} (h : W.cell? a = some v) : a.block < W.heap.size := by
  rcases Nat.lt_or_ge a.block W.heap.size with h' | h'
  · exact h'
  · simp [World.cell?, Array.getElem?_eq_none h'] at h

theorem of_laid {W : World} (h : laidMet Tryf.prog list2 W) :
    ∃ b off cap ea s1, Laid W.heap.size W b off cap 47 ea ∧ W.cell? ea = some (.string s1) ∧ s1.size ≤ maxLen := by
  obtain ⟨ea, s1, hv1, hc1, _, hz1⟩ := laid_sentinel h gBad tBad Tryf.underlying26 row47 Tryf.underlying47 Tryf.underlying49 rfl rfl Tryf.underlying9 (by kernel_rfl) (by kernel_rfl)
  have hbad : W.cell? ⟨1, 0, none⟩ = some (.iface 47 (.pointer (some ea))) := by simpa using World.var?_cell gBad hv1 0
  obtain ⟨ps, ⟨g0, t0, cs0, f0, p0, q0, hg0, ht0, hv0, hd0, _, _⟩, _, _⟩ := h.tail
  obtain rfl := Option.some.inj (gNames.symm.trans hg0)
  obtain rfl := Option.some.inj (tNames.symm.trans ht0)
  obtain ⟨a, cap, hcs, _, hel⟩ := open_row Tryf.underlying31 (by kernel_rfl) hd0
  have hnm : W.cell? ⟨0, 0, none⟩ = some (.slice (some a) 4 cap) := by
    have := World.var?_cell hg0 hv0 0
    rw [Array.eq_one_of_toList hcs] at this
    simpa using this
  have each : ∀ j, j < 4 → W.cell? (a.add j) = some (.string (nmOf j)) := by
    intro j hj
    have hd : ([.lit (.string [99, 108, 97, 117, 100, 101]), .lit (.string [97, 103, 101, 110, 116, 115]), .lit (.string [111, 114, 103]), .lit (.string [109, 101, 116, 104, 111, 100])] : List (DataW Unit))[j]? = some (.lit (.string (nmOf j).data.toList)) := by
      match j, hj with
      | 0, _ => rfl
      | 1, _ => rfl
      | 2, _ => rfl
      | 3, _ => rfl
    obtain ⟨v, n, q, hcell, htr⟩ := hel j _ hd
    obtain ⟨s, e1, e2, _⟩ := DataW.trod_string Tryf.underlying9 htr
    simp only [Prod.mk.injEq, DataW.lit.injEq, Lit.string.injEq] at e2
    obtain rfl : v = .string s := by simpa using e1
    rw [hcell, bytes_one s (nmOf j) e2.1.symm]
  obtain ⟨b, off, spot⟩ := a
  have h0 := each 0 (by omega)
  obtain rfl : spot = none := by simpa [Addr.add] using World.cell?_spot h0
  have hb : b < W.heap.size := by simpa [Addr.add] using block_lt h0
  refine ⟨b, off, cap, ea, s1, ⟨hnm, hbad, fun j hj => ?_, block_lt hbad, hb⟩, hc1, hz1⟩
  have := each j hj
  unfold Addr.add at this
  split at this
  · rename_i hj0
    subst hj0
    exact this
  · exact this

/-- The door's own heap meets the list. -/
theorem door_met (os : Os) (args : Array Value) : laidMetH Tryf.prog list2 ((World.doorLaid Tryf.prog 33 os).forCall (fun _ _ => 0) ⟨#[], args, []⟩).memory :=
  laidMetH_of_parts3 (fuel := 8) (laidMet_of_run' 8 (by kernel_rfl) (by kernel_rfl)) (by kernel_rfl) (by kernel_rfl)
end Go.Proofs.Qxb6614292aFmt.Al
