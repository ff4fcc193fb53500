/-
  'Rows.FnFileStringUnmarshalRoundTripToldSaid': the told and tied card, out of the walk (Qxb6614292aFmtRtWalk) and the opened list (Qxb6614292aFmtOpened). The road of this law comes to no stop of fmt's at run time.
-/
import Derived.Test.Qxb6614292aFmtOpened
import Derived.Test.Qxb6614292aFmtTie
import Derived.Test.Qxb6614292aFmtCards
import Derived.Deep.DeepWitnessRef
import Derived.OpenVars
import Derived.Stop.JoinedAt
import Derived.Stop.JoinedTold
import Derived.SevenTiedAt
namespace Go.Proofs.Qxb6614292aFmt.fnFileStringUnmarshalRoundTrip
open Go.ChangeShapes Go.WideShapes Go.ChangeAt Go.RowKit
open Go.Proofs.Qxb6614292aFmt.Al

theorem walk (f g : Int) (w : World) {b off cap : Nat} {T : TypeId} {ea : Addr} (hL : Laid w.heap.size w b off cap T ea) :
    Calls Tryf.prog 3 #[.int .i64 f, .int .i64 g] w fun e w' => e = .returned (.bool true) ∧ Below w.heap.size w w' := by
  by_cases h : f < 0 ∨ 3 < f
  · exact walk3_out f g w h
  · obtain ⟨k, rfl⟩ : ∃ k : Nat, f = k := ⟨f.toNat, by omega⟩
    exact walk3_in k g w (by omega) hL

set_option maxRecDepth 100000 in
theorem lifted (os : Os) (started : os.Started) (H : Type) (enc : TypeId × Value → H) :
    ReturnsInTold none {} Tryf.checked os 3 .any Input.okWide ((OpenSpec.ofChange Rows.fnFileStringUnmarshalRoundTripSpec).preRow enc Tryf.prog Tryf.f3 Rows.fnFileStringUnmarshalRoundTripRow.domain false Rows.fnFileStringUnmarshalRoundTripRow.laid)
      (fun F => ((OpenSpec.ofChange Rows.fnFileStringUnmarshalRoundTripSpec).at F).post enc Tryf.prog Tryf.f3 false true false false) (aloneAtReturn Tryf.prog) nothingAlways := by
  refine returnsInTold_of_row (C := Tryf.checked) (s := OpenSpec.ofChange Rows.fnFileStringUnmarshalRoundTripSpec) (by kernel_rfl) own started (by kernel_rfl) Tryf.func3
    (OpenSpec.witness_stopped_atRef (enc := enc) (C := Tryf.checked) false (World.doorLaid Tryf.prog 33 os) #[.int .i64 0, .int .i64 0] rfl (by kernel_rfl) (by kernel_rfl) (by kernel_rfl)
      (OpenSpec.preRow_of_B rfl 8 (by kernel_rfl) (by kernel_rfl) (door_met os _))) ?_
  intro F W base args ds gs before _ hF hval0 hW _ _ _ hL0 _
  have hval : ∀ (j : Nat) t v, Tryf.f3.params[j]? = some t → args[j]? = some v → Value.okWide Tryf.prog W .any base t v := hval0
  have hL : laidMet Tryf.prog list2 W := hL0
  have hW' := hW
  obtain ⟨p, q, hA0, hV0, rfl, _, _⟩ := hW
  have hA : DataW.TrodAll enc Tryf.prog W 0 (fun _ => true) true Tryf.f3.params.toList args.toList ds p := hA0
  have hV : DataW.TrodVars enc Tryf.prog W (fun _ => true) [nNames, nBad] gs q := hV0
  rw [Tryf.params3] at hA hval
  obtain ⟨v0, v1, d0, d1, p0, p1, rfl, rfl, rfl, h0, h1⟩ := trodAll_two hA
  obtain ⟨f, rfl, rfl, rfl, wf⟩ := open_int Tryf.underlying3 (hval 0 3 v0 rfl rfl) h0
  obtain ⟨g, rfl, rfl, rfl, wg⟩ := open_int Tryf.underlying3 (hval 1 3 v1 rfl rfl) h1
  obtain ⟨g1, g2, rfl⟩ : ∃ g1 g2, gs = [g1, g2] := by
    match gs, hV with
    | [x, y], _ => exact ⟨x, y, rfl⟩
    | [_], ⟨_, _, _, _, _, _, _, _, _, _, h, _⟩ => exact h.elim
    | _ :: _ :: _ :: _, ⟨_, _, _, _, _, _, _, _, _, _, ⟨_, _, _, _, _, _, _, _, _, _, h, _⟩, _⟩ => exact h.elim
  obtain ⟨b, off, cap, ea, s1, hLd, _, _⟩ := of_laid hL
  clear hA0 hV0 hval0
  have e1 : ((OpenSpec.ofChange Rows.fnFileStringUnmarshalRoundTripSpec).at F.told).fn H ([.lit (.int .i64 f), .lit (.int .i64 g)] ++ [g1, g2]) = { results := [.lit (.bool true)], args := [.lit (.int .i64 f), .lit (.int .i64 g)], vars := [g1, g2] } := rfl
  refine (walk f g W hLd).mono fun e W' ⟨he, bel⟩ => ?_
  subst he
  refine ⟨_, rfl, _, _, _, [], [] ++ [], q, hW', ?_, ?_, ?_, bel.frame _, fun h => by cases h⟩
  · rw [e1]; exact trodAll_mk1 (shut_bool Tryf.underlying4 _)
  · rw [e1]; exact trodAll_mk2 (shut_int Tryf.underlying3 wf) (shut_int Tryf.underlying3 wg)
  · rw [e1]; exact Below.trodVars laidOut bel (by kernel_rfl) hV

theorem laidOutPin : laidOutB Tryf.pinned.checked.prog = true := by kernel_rfl
theorem stopsIs : Tryf.pinned.checked.prog.stops = ["fmt.Sprintf", "fmt.errorf"] := by kernel_rfl
theorem knobsIs : Tryf.pinned.checked.prog.stopKnobs = [] := by kernel_rfl
theorem quietIs (os : Os) : Stop.quiet Tryf.pinned.checked.prog os := by
  intro k hk
  rw [knobsIs] at hk
  cases hk

/-- THE STATEMENT -/
theorem proved : Rows.FnFileStringUnmarshalRoundTripToldSaid :=
  Claim7.holds_of_told_tied_any_at .later 3 Tryf.f3 "fmt.Sprintf" ["fmt.errorf"] [] _ _ _ _ _ (by kernel_rfl) rfl rfl rfl laidOutPin (by kernel_rfl) rfl ⟨rfl, rfl, rfl, rfl, rfl, rfl, rfl⟩ rfl rfl (by kernel_rfl) (by kernel_rfl) Tryf.func3 (by kernel_rfl)
    (of_decide_eq_true (by kernel_rfl)) (of_decide_eq_true (by kernel_rfl)) stopsIs.symm rfl knobsIs.symm (by kernel_rfl)
    (by kernel_rfl) (by kernel_rfl) (by kernel_rfl) (by kernel_rfl) (by kernel_rfl) (by kernel_rfl) (by kernel_rfl) (by kernel_rfl) (by kernel_rfl) rfl (by kernel_rfl) rfl rfl
    rfl rfl
    rfl (by kernel_rfl) (by kernel_rfl) (by kernel_rfl) (by decide) (by kernel_rfl) fnFileStringUnmarshalRoundTrip_row_tie
    (OpenClaim.moreEntering_of (by kernel_rfl) (by kernel_rfl) (by kernel_rfl) (by kernel_rfl) (by kernel_rfl) (by kernel_rfl) (by kernel_rfl) (by kernel_rfl) (by kernel_rfl) (by kernel_rfl))
    ⟨_, WideRow.started_initial, quietIs _⟩
    (fun os started _ H enc _ => lifted os started H enc)
end Go.Proofs.Qxb6614292aFmt.fnFileStringUnmarshalRoundTrip
