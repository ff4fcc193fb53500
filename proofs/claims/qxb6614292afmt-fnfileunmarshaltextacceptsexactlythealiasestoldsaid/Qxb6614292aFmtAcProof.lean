/-
  'Rows.FnFileUnmarshalTextAcceptsExactlyTheAliasesToldSaid': the told and tied card, out of the walks (Qxb6614292aFmtAcWalk) and the opened list (Qxb6614292aFmtOpened). The refusing road comes to fmt.Errorf: its text is not looked at.
-/
import Derived.Test.Qxb6614292aFmtAcWalk
import Derived.Test.Qxb6614292aFmtOpened
import Derived.Test.Qxb6614292aFmtTie
import Derived.Test.Qxb6614292aFmtCards
import Derived.Deep.DeepWitnessRef
import Derived.OpenVars
import Derived.Stop.JoinedAt
import Derived.Stop.JoinedTold
import Derived.SevenTiedAt
namespace Go.Proofs.Qxb6614292aFmt.fnFileUnmarshalTextAcceptsExactlyTheAliases
open Go.ChangeShapes Go.WideShapes Go.ChangeAt Go.RowKit
open Go.Extern.Stop Go.Stop Go.Extern
open Go.Proofs.Qxb6614292aFmt.Al

/-- WHAT THE WALK IS TOLD OF A SLICE OF BYTES THAT CAME IN: it is nil; or it leads to a row of 'cap' cells, the numbers 'zs' (the first 'len' are its elements). -/
def IsRow (w : World) (a : Option Addr) (len cap : Nat) (zs : List Int) : Prop :=
  (a = none ∧ len = 0 ∧ cap = 0 ∧ zs = []) ∨
  ∃ x, a = some x ∧ len ≤ cap ∧ cap ≤ maxLen ∧ zs.length = cap ∧ (∀ i, i < zs.length → w.cell? (x.add i) = some (.int .u8 (zs.getD i 0))) ∧ ∀ n ∈ zs, (Lit.int .u8 n).wf = true

theorem byte_back (n : Int) (h : (Lit.int .u8 n).wf = true) : ((UInt8.ofNat n.toNat).toNat : Int) = n := by
  have hb := bounds_u8 h
  simp
  omega

theorem text_is {w : World} {a : Option Addr} {len cap : Nat} {zs : List Int} (h : IsRow w a len cap zs) : ∃ s, TextIs w a len cap s := by
  rcases h with ⟨rfl, rfl, rfl, rfl⟩ | ⟨x, rfl, hl, _, hz, hcell, hwf⟩
  · exact ⟨ByteArray.empty, fun w' _ => run_convert_bytes_nil (P := Tryf.prog) w' 22 5 Tryf.underlying22 Tryf.underlying5 0 0 9 Tryf.underlying9, fun w' _ => op22_nil _ w'⟩
  · have hlen : (zs.take len).length = len := by simp; omega
    have hat : ∀ w', Below w.heap.size w w' → ∀ j v, ((zs.take len).map (Value.int .u8))[j]? = some v → w'.cell? (x.add j) = some v := by
      intro w' hb j v hj
      have hjl : j < (zs.take len).length := by simpa using (List.getElem?_eq_some_iff.1 hj).1
      have hjz : j < zs.length := by omega
      have hc := hcell j hjz
      rw [hb.cell (block_lt hc), hc]
      have hjn : j < len := by omega
      simp [hjn, List.getElem?_eq_getElem hjz] at hj
      simp [List.getD, List.getElem?_eq_getElem hjz, hj]
    refine ⟨⟨((zs.take len).map fun n => UInt8.ofNat n.toNat).toArray⟩, fun w' hb => ?_, fun w' hb => ?_⟩
    · have hc := run_convert_bytes_back (P := Tryf.prog) w' 22 9 5 x cap ((zs.take len).map fun n => UInt8.ofNat n.toNat) Tryf.underlying22 Tryf.underlying5 Tryf.underlying9 (fun j hj => by
        have hjl : j < (zs.take len).length := by simpa using hj
        have hw : (Lit.int .u8 ((zs.take len)[j])).wf = true := hwf _ (List.mem_of_mem_take (List.getElem_mem hjl))
        rw [hat w' hb j (.int .u8 ((zs.take len)[j])) (by rw [List.getElem?_map, List.getElem?_eq_getElem hjl]; rfl), List.getElem_map, byte_back _ hw])
      rw [List.length_map, hlen] at hc
      exact hc
    · have ho := op22_113 "fmt.errorf" x cap (zs.take len) w' (hat w' hb)
      rw [hlen] at ho
      exact ho

/-- The names' slice has room for its four. -/
theorem names_cap {W : World} (h : laidMet Tryf.prog list2 W) {x : Option Addr} {cap : Nat} (hc : W.cell? ⟨0, 0, none⟩ = some (.slice x 4 cap)) : 4 ≤ cap := by
  obtain ⟨ps, ⟨g0, t0, cs0, f0, p0, q0, hg0, ht0, hv0, hd0, _, _⟩, _, _⟩ := h.tail
  obtain rfl := Option.some.inj (gNames.symm.trans hg0)
  obtain rfl := Option.some.inj (tNames.symm.trans ht0)
  obtain ⟨a, cap', hcs, hle, _⟩ := open_row Tryf.underlying31 (by kernel_rfl) hd0
  have hnm : W.cell? ⟨0, 0, none⟩ = some (.slice (some a) 4 cap') := by
    have := World.var?_cell hg0 hv0 0
    rw [Array.eq_one_of_toList hcs] at this
    simpa using this
  rw [hc] at hnm
  simp only [Option.some.injEq, Value.slice.injEq] at hnm
  rw [hnm.2.2]
  exact hle

/-- The first of the four names that is s, or none. -/
theorem first_or (s : ByteArray) : (∃ i, i < 4 ∧ (s.toList == (nmOf i).toList) = true ∧ ∀ j, j < i → (s.toList == (nmOf j).toList) = false) ∨ ∀ j, j < 4 → (s.toList == (nmOf j).toList) = false := by
  have go : ∀ k, k ≤ 4 → (∃ i, i < 4 ∧ (s.toList == (nmOf i).toList) = true ∧ ∀ j, j < i → (s.toList == (nmOf j).toList) = false) ∨ ∀ j, j < k → (s.toList == (nmOf j).toList) = false := by
    intro k
    induction k with
    | zero => intro _; exact Or.inr fun j hj => absurd hj (Nat.not_lt_zero j)
    | succ k ih =>
      intro hk
      rcases ih (by omega) with h | h
      · exact Or.inl h
      · cases hq : (s.toList == (nmOf k).toList) with
        | true => exact Or.inl ⟨k, by omega, hq, h⟩
        | false =>
          refine Or.inr fun j hj => ?_
          by_cases e : j = k
          · subst e; exact hq
          · exact h j (by omega)
  exact go 4 (Nat.le_refl _)

theorem walk (F : Interp) (a : Option Addr) (len cap : Nat) (zs : List Int) (g : Int) (w : World) (hr : IsRow w a len cap zs) (hF : F.answers w.tape) {b off cp : Nat} {ea : Addr} {s1 : ByteArray}
    (hL : Laid w.heap.size w b off cp 47 ea) (hcap : 4 ≤ cp) (he : w.cell? ea = some (.string s1)) :
    Calls Tryf.prog 4 #[.slice a len cap, .int .i64 g] w fun e w' => e = .returned (.bool true) ∧ Below w.heap.size w w' := by
  by_cases hn : len ≤ 1048576
  · obtain ⟨s, hT⟩ := text_is hr
    rcases first_or s with ⟨i, hi, hat, hno⟩ | hno
    · exact walk4_yes i hi a len cap g s w hn hL hT hat hno
    · exact walk4_no F a len cap g s s1 w hn hL hcap hF he (block_lt he) hT hno
  · exact walk4_long a len cap g w (by omega)

set_option maxRecDepth 100000 in
theorem lifted (os : Os) (started : os.Started) (H : Type) (enc : TypeId × Value → H) :
    ReturnsInTold none {} Tryf.checked os 4 .any Input.okWide ((OpenSpec.ofChange Rows.fnFileUnmarshalTextAcceptsExactlyTheAliasesSpec).preRow enc Tryf.prog Tryf.f4 Rows.fnFileUnmarshalTextAcceptsExactlyTheAliasesRow.domain false Rows.fnFileUnmarshalTextAcceptsExactlyTheAliasesRow.laid)
      (fun F => ((OpenSpec.ofChange Rows.fnFileUnmarshalTextAcceptsExactlyTheAliasesSpec).at F).post enc Tryf.prog Tryf.f4 false true false false) (aloneAtReturn Tryf.prog) nothingAlways := by
  refine returnsInTold_of_row (C := Tryf.checked) (s := OpenSpec.ofChange Rows.fnFileUnmarshalTextAcceptsExactlyTheAliasesSpec) (by kernel_rfl) own started (by kernel_rfl) Tryf.func4
    (OpenSpec.witness_stopped_atRef (enc := enc) (C := Tryf.checked) false (World.doorLaid Tryf.prog 33 os) #[.slice none 0 0, .int .i64 0] rfl (by kernel_rfl) (by kernel_rfl) (by kernel_rfl)
      (OpenSpec.preRow_of_B rfl 8 (by kernel_rfl) (by kernel_rfl) (door_met os _))) ?_
  intro F W base args ds gs before _ hF hval0 hW _ _ _ hL0 _
  have hval : ∀ (j : Nat) t v, Tryf.f4.params[j]? = some t → args[j]? = some v → Value.okWide Tryf.prog W .any base t v := hval0
  have hL : laidMet Tryf.prog list2 W := hL0
  have hW' := hW
  obtain ⟨p, q, hA0, hV0, rfl, _, _⟩ := hW
  have hA : DataW.TrodAll enc Tryf.prog W 0 (fun _ => true) true Tryf.f4.params.toList args.toList ds p := hA0
  have hV : DataW.TrodVars enc Tryf.prog W (fun _ => true) [nNames, nBad] gs q := hV0
  rw [Tryf.params4] at hA hval
  obtain ⟨v0, v1, d0, d1, p0, p1, rfl, rfl, rfl, h0, h1⟩ := trodAll_two hA
  obtain ⟨a0, len0, cap0, rfl⟩ := okWide_slice Tryf.underlying22 (hval 0 22 v0 rfl rfl)
  have k0 := h0
  have lt0 : ∀ x ∈ p0, x.block < W.heap.size := by obtain ⟨m, hm⟩ := k0; exact DataW.trod_lt m _ _ _ hm
  obtain ⟨z0, w0⟩ : ∃ zs, IsRow W a0 len0 cap0 zs := by
    obtain ⟨fuel, hf⟩ := h0
    rcases open_ints Tryf.underlying22 Tryf.underlying5 (by kernel_rfl) hf with ⟨hcs, _⟩ | ⟨x, l, c, zs, hcs, _, hl, hm, hz, _, hcell, hwz⟩
    · simp [Value.cells] at hcs
      obtain ⟨rfl, rfl, rfl⟩ := hcs
      exact ⟨[], .inl ⟨rfl, rfl, rfl, rfl⟩⟩
    · simp [Value.cells] at hcs
      obtain ⟨rfl, rfl, rfl⟩ := hcs
      exact ⟨zs, .inr ⟨_, rfl, hl, hm, by simpa using hz, hcell, hwz⟩⟩
  obtain ⟨g, rfl, rfl, rfl, wg⟩ := open_int Tryf.underlying3 (hval 1 3 v1 rfl rfl) h1
  obtain ⟨g1, g2, rfl⟩ : ∃ g1 g2, gs = [g1, g2] := by
    match gs, hV with
    | [x, y], _ => exact ⟨x, y, rfl⟩
    | [_], ⟨_, _, _, _, _, _, _, _, _, _, h, _⟩ => exact h.elim
    | _ :: _ :: _ :: _, ⟨_, _, _, _, _, _, _, _, _, _, ⟨_, _, _, _, _, _, _, _, _, _, h, _⟩, _⟩ => exact h.elim
  obtain ⟨b, off, cap, ea, s1, hLd, hea, _⟩ := of_laid hL
  have hcap := names_cap hL hLd.lNames
  clear hA0 hV0 hval0
  have e1 : ((OpenSpec.ofChange Rows.fnFileUnmarshalTextAcceptsExactlyTheAliasesSpec).at F.told).fn H ([d0, .lit (.int .i64 g)] ++ [g1, g2]) = { results := [.lit (.bool true)], args := [d0, .lit (.int .i64 g)], vars := [g1, g2] } := rfl
  refine (walk F.told a0 len0 cap0 z0 g W w0 hF hLd hcap hea).mono fun e W' ⟨he, bel⟩ => ?_
  subst he
  refine ⟨_, rfl, _, _, _, [], p0 ++ [], q, hW', ?_, ?_, ?_, bel.frame _, fun h => by cases h⟩
  · rw [e1]; exact trodAll_mk1 (shut_bool Tryf.underlying4 _)
  · rw [e1]; exact trodAll_mk2 (Below.trod laidOut (by kernel_rfl) (of_decide_eq_true (by kernel_rfl)) k0 bel lt0) (shut_int Tryf.underlying3 wg)
  · rw [e1]; exact Below.trodVars laidOut bel (by kernel_rfl) hV

theorem laidOutPin : laidOutB Tryf.pinned.checked.prog = true := by kernel_rfl
theorem stopsIs : Tryf.pinned.checked.prog.stops = ["fmt.Sprintf", "fmt.errorf"] := by kernel_rfl
theorem knobsIs : Tryf.pinned.checked.prog.stopKnobs = [] := by kernel_rfl
theorem quietIs (os : Os) : Stop.quiet Tryf.pinned.checked.prog os := by
  intro k hk
  rw [knobsIs] at hk
  cases hk

/-- THE STATEMENT -/
theorem proved : Rows.FnFileUnmarshalTextAcceptsExactlyTheAliasesToldSaid :=
  Claim7.holds_of_told_tied_any_at .later 4 Tryf.f4 "fmt.Sprintf" ["fmt.errorf"] [] _ _ _ _ _ (by kernel_rfl) rfl rfl rfl laidOutPin (by kernel_rfl) rfl ⟨rfl, rfl, rfl, rfl, rfl, rfl, rfl⟩ rfl rfl (by kernel_rfl) (by kernel_rfl) Tryf.func4 (by kernel_rfl)
    (of_decide_eq_true (by kernel_rfl)) (of_decide_eq_true (by kernel_rfl)) stopsIs.symm rfl knobsIs.symm (by kernel_rfl)
    (by kernel_rfl) (by kernel_rfl) (by kernel_rfl) (by kernel_rfl) (by kernel_rfl) (by kernel_rfl) (by kernel_rfl) (by kernel_rfl) (by kernel_rfl) rfl (by kernel_rfl) rfl rfl
    rfl rfl
    rfl (by kernel_rfl) (by kernel_rfl) (by kernel_rfl) (by decide) (by kernel_rfl) fnFileUnmarshalTextAcceptsExactlyTheAliases_row_tie
    (OpenClaim.moreEntering_of (by kernel_rfl) (by kernel_rfl) (by kernel_rfl) (by kernel_rfl) (by kernel_rfl) (by kernel_rfl) (by kernel_rfl) (by kernel_rfl) (by kernel_rfl) (by kernel_rfl))
    ⟨_, WideRow.started_initial, quietIs _⟩
    (fun os started _ H enc _ => lifted os started H enc)
end Go.Proofs.Qxb6614292aFmt.fnFileUnmarshalTextAcceptsExactlyTheAliases
