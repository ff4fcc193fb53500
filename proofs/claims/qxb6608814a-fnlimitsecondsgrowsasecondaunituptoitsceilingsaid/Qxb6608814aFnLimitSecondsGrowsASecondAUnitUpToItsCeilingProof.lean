/-
  'Rows.FnLimitSecondsGrowsASecondAUnitUpToItsCeilingSaid'. The walk goes over the callees' contracts (Qxb6608814aLsCalls), every test decided ahead of it; the row's step is the guide's frame.
-/
import Derived.Test.Qxb6608814aLsCalls
import Derived.ProofKit
import Derived.OpenShut
import Derived.ShutString
namespace Go.Proofs.Qxb6608814a.fnLimitSecondsGrowsASecondAUnitUpToItsCeiling
open Go.ChangeShapes Go.WideShapes Go.ChangeAt Go.RowKit
open Go.ChangeMaps (open_string shut_string)
open Go.Proofs.Qxb6608814a.Ls
set_option linter.unusedVariables false

theorem own : ownKnob Try.prog.godebug = none := by kernel_rfl

/-! ### THE PLAIN LAW: no Go in sight -/
theorem secs_bd (n : Int) (h : 0 ≤ n) : 0 ≤ secsOf n ∧ secsOf n ≤ 9223372036854775807 := by
  unfold secsOf
  split <;> omega

theorem secs_diff (a b : Int) (h0 : 0 ≤ a) (h1 : a ≤ b) (h2 : b ≤ 9223372036) : (secsOf b - secsOf a == (b - a) * 1000000000) = true := by
  have hb : ¬ 9223372036 < b := by omega
  have ha : ¬ 9223372036 < a := by omega
  rw [secsOf, secsOf, if_neg hb, if_neg ha]
  simp only [beq_iff_eq]
  omega

theorem secs_low (b : Int) (h2 : b ≤ 9223372036) : secsOf b < 9223372036854775807 := by
  have hb : ¬ 9223372036 < b := by omega
  rw [secsOf, if_neg hb]
  omega

theorem secs_high (b : Int) (h2 : 9223372036 < b) : (secsOf b == 9223372036854775807) = true := by
  rw [secsOf, if_pos h2]
  simp

theorem secs_not (b : Int) (h2 : b ≤ 9223372036) : (secsOf b == 9223372036854775807) = false := by
  have := secs_low b h2
  simp only [beq_eq_false_iff_ne]
  omega

theorem secs_le (a b : Int) (h0 : 0 ≤ a) (h2 : 9223372036 < b) : secsOf a ≤ secsOf b := by
  have h := (secs_bd a h0).2
  rw [secsOf.eq_def b, if_pos h2]
  exact h

/-! ### THE WALK -/
theorem ret_not (a : Int) (h : a ≤ 9223372036) : Ending.returned (.bool (!decide (9223372036 < a))) = .returned (.bool true) := by
  rw [decide_eq_false (by omega : ¬ 9223372036 < a)]
  rfl

theorem walk_long (a0 : Int) (a1 : Bool) (a2 : ByteArray) (a3 : Int) (a4 : Bool) (a5 : ByteArray) (w2 : a2.size ≤ maxLen) (w5 : a5.size ≤ maxLen) (hs : 1048576 < a2.size + a5.size) (w : World) :
    Calls Try.prog 3 #[.int .i64 a0, .bool a1, .string a2, .int .i64 a3, .bool a4, .string a5] w fun e w' => e = .returned (.bool true) ∧ Grown w w' := by
  go_enter Try.func3, Try.ntmps3
  go_wp2_with (go_at_call 4; refine (bytes_no _ _ _ _ _ _ _ w2 w5 hs).mono ?_; rintro e w' ⟨rfl, rfl⟩)
  go_ret
  exact ⟨rfl, Grown.refl _⟩

theorem walk_neg (a0 : Int) (a1 : Bool) (a2 : ByteArray) (a3 : Int) (a4 : Bool) (a5 : ByteArray) (hs : a2.size + a5.size ≤ 1048576) (hn : a0 < 0 ∨ a3 < 0) (w : World) :
    Calls Try.prog 3 #[.int .i64 a0, .bool a1, .string a2, .int .i64 a3, .bool a4, .string a5] w fun e w' => e = .returned (.bool true) ∧ Grown w w' := by
  by_cases h0 : a0 < 0
  · clear hn
    go_enter Try.func3, Try.ntmps3
    go_wp2_with (go_at_call 4; refine (bytes_yes _ _ _ _ _ _ _ hs).mono ?_; rintro e w' ⟨rfl, rfl⟩)
    go_ret
    exact ⟨rfl, Grown.refl _⟩
  · have h3 : a3 < 0 := by omega
    clear hn
    go_enter Try.func3, Try.ntmps3
    go_wp2_with (go_at_call 4; refine (bytes_yes _ _ _ _ _ _ _ hs).mono ?_; rintro e w' ⟨rfl, rfl⟩)
    go_ret
    exact ⟨rfl, Grown.refl _⟩

set_option maxHeartbeats 400000 in
theorem walk_up_low (a0 : Int) (a1 : Bool) (a2 : ByteArray) (a3 : Int) (a4 : Bool) (a5 : ByteArray) (hs : a2.size + a5.size ≤ 1048576) (h0 : 0 ≤ a0) (h3 : 0 ≤ a3) (hle : a0 ≤ a3) (hm : a3 ≤ 9223372036) (w : World) :
    Calls Try.prog 3 #[.int .i64 a0, .bool a1, .string a2, .int .i64 a3, .bool a4, .string a5] w fun e w' => e = .returned (.bool true) ∧ Grown w w' := by
  have hb0 := secs_bd a0 h0
  have hb3 := secs_bd a3 h3
  have hd := secs_diff a0 a3 h0 hle hm
  have hl := secs_low a3 hm
  go_enter Try.func3, Try.ntmps3
  go_wp2_with (first | (go_at_call 4; refine (bytes_yes _ _ _ _ _ _ _ hs).mono ?_; rintro e w' ⟨rfl, rfl⟩) | (go_at_call 6; refine (newLimit_any _ _ _ _).mono ?_; rintro e w' ⟨rfl, hg⟩) | (go_at_call 5; refine (limit_any _ _ _ _ (by omega)).mono ?_; rintro e w' ⟨rfl, hg⟩))
  go_ret
  exact ⟨rfl, grown_trans (grown_trans (grown_trans ‹_› ‹_›) ‹_›) ‹_›⟩

set_option maxHeartbeats 400000 in
theorem walk_down_low (a0 : Int) (a1 : Bool) (a2 : ByteArray) (a3 : Int) (a4 : Bool) (a5 : ByteArray) (hs : a2.size + a5.size ≤ 1048576) (h0 : 0 ≤ a0) (h3 : 0 ≤ a3) (hle : a3 < a0) (hm : a0 ≤ 9223372036) (w : World) :
    Calls Try.prog 3 #[.int .i64 a0, .bool a1, .string a2, .int .i64 a3, .bool a4, .string a5] w fun e w' => e = .returned (.bool true) ∧ Grown w w' := by
  have hb0 := secs_bd a0 h0
  have hb3 := secs_bd a3 h3
  have hd := secs_diff a3 a0 h3 (by omega) hm
  have hl := secs_low a0 hm
  go_enter Try.func3, Try.ntmps3
  go_wp2_with (first | (go_at_call 4; refine (bytes_yes _ _ _ _ _ _ _ hs).mono ?_; rintro e w' ⟨rfl, rfl⟩) | (go_at_call 6; refine (newLimit_any _ _ _ _).mono ?_; rintro e w' ⟨rfl, hg⟩) | (go_at_call 5; refine (limit_any _ _ _ _ (by omega)).mono ?_; rintro e w' ⟨rfl, hg⟩))
  go_ret
  exact ⟨rfl, grown_trans (grown_trans (grown_trans ‹_› ‹_›) ‹_›) ‹_›⟩

set_option maxHeartbeats 400000 in
theorem walk_up_mid (a0 : Int) (a1 : Bool) (a2 : ByteArray) (a3 : Int) (a4 : Bool) (a5 : ByteArray) (hs : a2.size + a5.size ≤ 1048576) (h0 : 0 ≤ a0) (h3 : 0 ≤ a3) (hle : a0 ≤ a3) (hm : 9223372036 < a3) (hn : a0 ≤ 9223372036) (w : World) :
    Calls Try.prog 3 #[.int .i64 a0, .bool a1, .string a2, .int .i64 a3, .bool a4, .string a5] w fun e w' => e = .returned (.bool true) ∧ Grown w w' := by
  have hb0 := secs_bd a0 h0
  have hb3 := secs_bd a3 h3
  have he := secs_high a3 hm
  have hl := secs_le a0 a3 h0 hm
  have hq := secs_not a0 hn
  go_enter Try.func3, Try.ntmps3
  go_wp2_with (first | (go_at_call 4; refine (bytes_yes _ _ _ _ _ _ _ hs).mono ?_; rintro e w' ⟨rfl, rfl⟩) | (go_at_call 6; refine (newLimit_any _ _ _ _).mono ?_; rintro e w' ⟨rfl, hg⟩) | (go_at_call 5; refine (limit_any _ _ _ _ (by omega)).mono ?_; rintro e w' ⟨rfl, hg⟩))
  go_ret
  exact ⟨ret_not a0 hn, grown_trans (grown_trans (grown_trans ‹_› ‹_›) ‹_›) ‹_›⟩

set_option maxHeartbeats 400000 in
theorem walk_down_mid (a0 : Int) (a1 : Bool) (a2 : ByteArray) (a3 : Int) (a4 : Bool) (a5 : ByteArray) (hs : a2.size + a5.size ≤ 1048576) (h0 : 0 ≤ a0) (h3 : 0 ≤ a3) (hle : a3 < a0) (hm : 9223372036 < a0) (hn : a3 ≤ 9223372036) (w : World) :
    Calls Try.prog 3 #[.int .i64 a0, .bool a1, .string a2, .int .i64 a3, .bool a4, .string a5] w fun e w' => e = .returned (.bool true) ∧ Grown w w' := by
  have hb0 := secs_bd a0 h0
  have hb3 := secs_bd a3 h3
  have he := secs_high a0 hm
  have hl := secs_le a3 a0 h3 hm
  have hq := secs_not a3 hn
  go_enter Try.func3, Try.ntmps3
  go_wp2_with (first | (go_at_call 4; refine (bytes_yes _ _ _ _ _ _ _ hs).mono ?_; rintro e w' ⟨rfl, rfl⟩) | (go_at_call 6; refine (newLimit_any _ _ _ _).mono ?_; rintro e w' ⟨rfl, hg⟩) | (go_at_call 5; refine (limit_any _ _ _ _ (by omega)).mono ?_; rintro e w' ⟨rfl, hg⟩))
  go_ret
  exact ⟨ret_not a3 hn, grown_trans (grown_trans (grown_trans ‹_› ‹_›) ‹_›) ‹_›⟩

set_option maxHeartbeats 400000 in
theorem walk_up_high (a0 : Int) (a1 : Bool) (a2 : ByteArray) (a3 : Int) (a4 : Bool) (a5 : ByteArray) (hs : a2.size + a5.size ≤ 1048576) (h0 : 0 ≤ a0) (h3 : 0 ≤ a3) (hle : a0 ≤ a3) (hm : 9223372036 < a3) (hn : 9223372036 < a0) (w : World) :
    Calls Try.prog 3 #[.int .i64 a0, .bool a1, .string a2, .int .i64 a3, .bool a4, .string a5] w fun e w' => e = .returned (.bool true) ∧ Grown w w' := by
  have hb0 := secs_bd a0 h0
  have hb3 := secs_bd a3 h3
  have he := secs_high a3 hm
  have hl := secs_le a0 a3 h0 hm
  have hq := secs_high a0 hn
  go_enter Try.func3, Try.ntmps3
  go_wp2_with (first | (go_at_call 4; refine (bytes_yes _ _ _ _ _ _ _ hs).mono ?_; rintro e w' ⟨rfl, rfl⟩) | (go_at_call 6; refine (newLimit_any _ _ _ _).mono ?_; rintro e w' ⟨rfl, hg⟩) | (go_at_call 5; refine (limit_any _ _ _ _ (by omega)).mono ?_; rintro e w' ⟨rfl, hg⟩))
  go_ret
  exact ⟨rfl, grown_trans (grown_trans (grown_trans ‹_› ‹_›) ‹_›) ‹_›⟩

set_option maxHeartbeats 400000 in
theorem walk_down_high (a0 : Int) (a1 : Bool) (a2 : ByteArray) (a3 : Int) (a4 : Bool) (a5 : ByteArray) (hs : a2.size + a5.size ≤ 1048576) (h0 : 0 ≤ a0) (h3 : 0 ≤ a3) (hle : a3 < a0) (hm : 9223372036 < a0) (hn : 9223372036 < a3) (w : World) :
    Calls Try.prog 3 #[.int .i64 a0, .bool a1, .string a2, .int .i64 a3, .bool a4, .string a5] w fun e w' => e = .returned (.bool true) ∧ Grown w w' := by
  have hb0 := secs_bd a0 h0
  have hb3 := secs_bd a3 h3
  have he := secs_high a0 hm
  have hl := secs_le a3 a0 h3 hm
  have hq := secs_high a3 hn
  go_enter Try.func3, Try.ntmps3
  go_wp2_with (first | (go_at_call 4; refine (bytes_yes _ _ _ _ _ _ _ hs).mono ?_; rintro e w' ⟨rfl, rfl⟩) | (go_at_call 6; refine (newLimit_any _ _ _ _).mono ?_; rintro e w' ⟨rfl, hg⟩) | (go_at_call 5; refine (limit_any _ _ _ _ (by omega)).mono ?_; rintro e w' ⟨rfl, hg⟩))
  go_ret
  exact ⟨rfl, grown_trans (grown_trans (grown_trans ‹_› ‹_›) ‹_›) ‹_›⟩

theorem walk (a0 : Int) (a1 : Bool) (a2 : ByteArray) (a3 : Int) (a4 : Bool) (a5 : ByteArray) (w0 : (Lit.int .i64 a0).wf = true) (w2 : a2.size ≤ maxLen) (w3 : (Lit.int .i64 a3).wf = true) (w5 : a5.size ≤ maxLen) (w : World) :
    Calls Try.prog 3 #[.int .i64 a0, .bool a1, .string a2, .int .i64 a3, .bool a4, .string a5] w fun e w' => e = .returned (.bool true) ∧ Grown w w' := by
  by_cases hs : a2.size + a5.size ≤ 1048576
  · by_cases hn : a0 < 0 ∨ a3 < 0
    · exact walk_neg a0 a1 a2 a3 a4 a5 hs hn w
    · have h0 : 0 ≤ a0 := by omega
      have h3 : 0 ≤ a3 := by omega
      by_cases hle : a0 ≤ a3
      · by_cases hm : a3 ≤ 9223372036
        · exact walk_up_low a0 a1 a2 a3 a4 a5 hs h0 h3 hle hm w
        · by_cases hk : a0 ≤ 9223372036
          · exact walk_up_mid a0 a1 a2 a3 a4 a5 hs h0 h3 hle (by omega) hk w
          · exact walk_up_high a0 a1 a2 a3 a4 a5 hs h0 h3 hle (by omega) (by omega) w
      · by_cases hm : a0 ≤ 9223372036
        · exact walk_down_low a0 a1 a2 a3 a4 a5 hs h0 h3 (by omega) hm w
        · by_cases hk : a3 ≤ 9223372036
          · exact walk_down_mid a0 a1 a2 a3 a4 a5 hs h0 h3 (by omega) (by omega) hk w
          · exact walk_down_high a0 a1 a2 a3 a4 a5 hs h0 h3 (by omega) (by omega) (by omega) w
  · exact walk_long a0 a1 a2 a3 a4 a5 w2 w5 (by omega) w

/-! ### THE ROW's STEP -/
set_option maxRecDepth 100000 in
theorem lifted (os : Os) (started : os.Started) (H : Type) (enc : TypeId × Value → H) :
    ReturnsInHanded {} Try.checked os 3 .any (Rows.fnLimitSecondsGrowsASecondAUnitUpToItsCeilingSpec.pre6 enc Try.prog Try.f3 Rows.fnLimitSecondsGrowsASecondAUnitUpToItsCeilingRow.domain false) (Rows.fnLimitSecondsGrowsASecondAUnitUpToItsCeilingSpec.post enc Try.prog Try.f3 false true false false) := by
  refine returnsInHanded_of_change (C := Try.checked) own started (by kernel_rfl) Try.func3
    (ChangeSpec.witness6 (enc := enc) (C := Try.checked) false ⟨#[], #[.int .i64 0, .bool false, .string ByteArray.empty, .int .i64 0, .bool false, .string ByteArray.empty], []⟩ 8 (by kernel_rfl) (by kernel_rfl) (by kernel_rfl) (by kernel_rfl)) ?_
  intro W base args ds gs before hval0 hW hcnd _
  have hval : ∀ (j : Nat) t v, Try.f3.params[j]? = some t → args[j]? = some v → Value.okWide Try.prog W .any base t v := hval0
  have hW' := hW
  obtain ⟨p, q, hA0, hV, rfl, hfz, hnd⟩ := hW
  have hA : DataW.TrodAll enc Try.prog W 0 (fun _ => true) true Try.f3.params.toList args.toList ds p := hA0
  rw [Try.params3] at hA hval
  obtain ⟨v0, vs0, d0, ds0, p0, q0, hargs, rfl, rfl, h0, r0⟩ := trodAll_cons hA
  obtain ⟨v1, vs1, d1, ds1, p1, q1, rfl, rfl, rfl, h1, r1⟩ := trodAll_cons r0
  obtain ⟨v2, vs2, d2, ds2, p2, q2, rfl, rfl, rfl, h2, r2⟩ := trodAll_cons r1
  obtain ⟨v3, vs3, d3, ds3, p3, q3, rfl, rfl, rfl, h3, r3⟩ := trodAll_cons r2
  obtain ⟨v4, vs4, d4, ds4, p4, q4, rfl, rfl, rfl, h4, r4⟩ := trodAll_cons r3
  obtain ⟨v5, vs5, d5, ds5, p5, q5, rfl, rfl, rfl, h5, r5⟩ := trodAll_cons r4
  obtain ⟨rfl, rfl, rfl⟩ := trodAll_nil r5
  obtain rfl : args = #[v0, v1, v2, v3, v4, v5] := by cases args; simp_all
  obtain ⟨rfl, rfl⟩ := trodVars_none hV
  obtain ⟨a0, rfl, rfl, rfl, w0⟩ := open_int Try.underlying3 (hval 0 3 v0 rfl rfl) h0
  obtain ⟨a1, rfl, rfl, rfl⟩ := open_bool Try.underlying4 (hval 1 4 v1 rfl rfl) h1
  obtain ⟨a2, rfl, rfl, rfl, w2⟩ := open_string Try.underlying9 (hval 2 9 v2 rfl rfl) h2
  obtain ⟨a3, rfl, rfl, rfl, w3⟩ := open_int Try.underlying3 (hval 3 3 v3 rfl rfl) h3
  obtain ⟨a4, rfl, rfl, rfl⟩ := open_bool Try.underlying4 (hval 4 4 v4 rfl rfl) h4
  obtain ⟨a5, rfl, rfl, rfl, w5⟩ := open_string Try.underlying9 (hval 5 9 v5 rfl rfl) h5
  clear hA0 hval0
  simp only [List.append_nil] at hW'
  refine (walk a0 a1 a2 a3 a4 a5 w0 w2 w3 w5 W).mono fun e W' ⟨he, hg⟩ => ?_
  subst he
  exact ⟨_, rfl, post_of_same (pa := []) (pv := []) hW' (fun _ _ _ => (trodAll_cons_mk (shut_bool Try.underlying4 _) trodAll_mk0)) (fun sp _ => (trodAll_cons_mk (shut_int Try.underlying3 w0) (trodAll_cons_mk (shut_bool Try.underlying4 _) (trodAll_cons_mk (shut_string Try.underlying9 w2) (trodAll_cons_mk (shut_int Try.underlying3 w3) (trodAll_cons_mk (shut_bool Try.underlying4 _) (trodAll_cons_mk (shut_string Try.underlying9 w5) trodAll_mk0))))))) (fun _ _ => rfl) rfl
    (hg.frame _) hg.2.1 (ok_one (by kernel_rfl) rfl (okWide_bool_mk Try.underlying4 _))⟩

theorem over : Rows.fnLimitSecondsGrowsASecondAUnitUpToItsCeilingRow.holds Try.pinned (OpenSpec.ofChange Rows.fnLimitSecondsGrowsASecondAUnitUpToItsCeilingSpec) :=
  OpenClaim.holds_of_wide 3 Try.f3 rfl rfl rfl rfl rfl rfl rfl ⟨rfl, rfl, rfl, rfl, rfl⟩ rfl rfl rfl rfl rfl (by kernel_rfl) Try.func3 (by kernel_rfl)
    (of_decide_eq_true (by kernel_rfl)) (by unfold Func.isWrapper; first | (rw [if_pos (by decide +kernel)]; kernel_rfl) | (rw [if_neg (by decide +kernel)]; exact ⟨rfl, rfl⟩))
    (fun os started H enc _ => lifted os started H enc)

/-- THE STATEMENT -/
theorem proved : Rows.FnLimitSecondsGrowsASecondAUnitUpToItsCeilingSaid :=
  over
end Go.Proofs.Qxb6608814a.fnLimitSecondsGrowsASecondAUnitUpToItsCeiling
