/-
  THE WALK OF 'FnFileUnmarshalTextAcceptsExactlyTheAliases' (function 4), by two ways: the text is the name of number i (first), or of none.
-/
import Derived.Test.Qxb6614292aFmtRtWalk
import Derived.Test.Qxb6614292aFmtUnmNo
import Derived.Deep.QuietTactic
import Derived.BigQuiet
namespace Go.Proofs.Qxb6614292aFmt.Al
open Go.RowKit Go.Extern.Stop Go.Stop Go.Extern

/-- What the walk is told of the text: in whatever later world the conversion gives s, and fmt can read the slice. -/
structure TextIs (w : World) (ta : Option Addr) (n c : Nat) (s : ByteArray) : Prop where
  xConv : ∀ w', Below w.heap.size w w' → (convert 22 9 (.slice ta n c)).run Tryf.prog w' = .ok (.string s) w'
  xOper : ∀ w', Below w.heap.size w w' → ∃ r, (FmtStop.operand "fmt.errorf" true 113 false (.iface 22 (.slice ta n c))).run Tryf.prog w' = .ok r w'

theorem below_draws {B : Nat} {a w : World} (h : Below B a w) (m : Nat) : Below B a (w.drewN m) := ⟨h.os, h.tape, h.output, h.size, h.block⟩

theorem small_yes (ta : Option Addr) (n c : Nat) (g : Int) (w : World) (hn : n ≤ 1048576) :
    Calls Tryf.prog 7 #[.slice ta n c, .int .i64 g] w fun e w' => e = .returned (.bool true) ∧ w = w' := by
  go_enter Tryf.func7, Tryf.ntmps7
  go_wp2
  go_ret
  exact ⟨rfl, rfl⟩

theorem small_no (ta : Option Addr) (n c : Nat) (g : Int) (w : World) (hn : 1048576 < n) :
    Calls Tryf.prog 7 #[.slice ta n c, .int .i64 g] w fun e w' => e = .returned (.bool false) ∧ w = w' := by
  go_enter Tryf.func7, Tryf.ntmps7
  go_wp2
  go_ret
  exact ⟨rfl, rfl⟩

theorem walk4_long (ta : Option Addr) (n c : Nat) (g : Int) (w : World) (hn : 1048576 < n) :
    Calls Tryf.prog 4 #[.slice ta n c, .int .i64 g] w fun e w' => e = .returned (.bool true) ∧ Below w.heap.size w w' := by
  go_enter Tryf.func4, Tryf.ntmps4
  go_wp2_with (go_at_call 7; refine (small_no _ _ _ _ _ hn).mono ?_; rintro e w' ⟨rfl, rfl⟩)
  go_ret
  exact ⟨rfl, Below.refl _ _⟩

/-- String at a number of the set, in whatever world behind draws: as the quiet walk takes it. -/
theorem string_quiet {B b off cap : Nat} {T : TypeId} {ea : Addr} {wr : World} (hL : Laid B wr b off cap T ea) (k : Nat) (hk : k < 4) (m : Nat) :
    Calls Tryf.prog 5 #[.int .i64 k] (wr.drewN m) fun e w'' => e = .returned (.string (nmOf k)) ∧ ∃ q, w'' = wr.drewN q :=
  (string_in k b off cap (nmOf k) (wr.drewN m) hk hL.lNames (hL.lEach k hk)).mono fun _ _ ⟨he, hw⟩ => ⟨he, m, hw.symm⟩

set_option maxHeartbeats 1000000 in
theorem walk4_no (F : Interp) (ta : Option Addr) (n c : Nat) (g : Int) (s s1 : ByteArray) (w : World) (hn : n ≤ 1048576) {b off cap : Nat} {ea : Addr} (hL : Laid w.heap.size w b off cap 47 ea) (hcap : 4 ≤ cap)
    (hF : F.answers w.tape) (he : w.cell? ea = some (.string s1)) (heb : ea.block < w.heap.size) (hT : TextIs w ta n c s) (hno : ∀ j, j < 4 → (s.toList == (nmOf j).toList) = false) :
    Calls Tryf.prog 4 #[.slice ta n c, .int .i64 g] w fun e w' => e = .returned (.bool true) ∧ Below w.heap.size w w' := by
  go_enter Tryf.func4, Tryf.ntmps4
  go_wp2_with (go_at_call 7; refine (small_yes _ _ _ _ _ hn).mono ?_; rintro e w' ⟨rfl, rfl⟩)
  go_loopw [5, 6] (fun a i wr => ∃ k : Nat, k ≤ 4 ∧ i = .int .i64 k ∧ a = .int .i64 (-1) ∧ Below w.heap.size w wr) (fun _ i _ => 4 - (intOf i).toNat)
  case atStart => exact ⟨0, Nat.zero_le _, rfl, rfl, Below.refl _ _⟩
  case round =>
    obtain ⟨k, hk, rfl, rfl, hb⟩ := hrel
    by_cases hk4 : k < 4
    · have hLr := hL.over hb
      have hcv : ∀ m, (convert 22 9 (.slice ta n c)).run Tryf.prog (wr.drewN m) = .ok (.string s) (wr.drewN m) := fun m => hT.xConv _ (below_draws hb m)
      have hst := string_quiet hLr k hk4
      have hf : ((nmOf k).toList == s.toList) = false := by have := hno k hk4; rw [Bool.beq_comm]; exact this
      clear hno hL hLr hF he heb
      go_wp2
      go_quiet ((go_at_call 5; exact hst _))
      go_wp2
      go_roundw
      case rel => exact ⟨k + 1, by omega, by go_num, rfl, below_draws hb _⟩
      case measure => simp [intOf]; omega
    · have hb2 := hb.alloc hb.size (.cells #[.int .i64 g] 23)
      have hL2 := hL.over hb2
      have hsz : w.heap.size ≤ wr.heap.size := hb.size
      have hsz2 : (wr.alloc (.cells #[.int .i64 g] 23)).heap.size = wr.heap.size + 1 := by simp
      have htx := text_no F b off cap ea (.pointer (some ⟨wr.heap.size, 0, none⟩)) ta n c s s1 (wr.alloc (.cells #[.int .i64 g] 23)) (by show F.answers wr.tape; rw [hb.tape]; exact hF) hL2.lNames hL2.lBad (hT.xConv _ hb2)
        (by rw [hsz2]; exact Nat.lt_succ_of_le (Nat.le_trans (Nat.le_of_lt hL.lRow) hsz)) hcap hL2.lEach hno (by rw [hsz2]; exact Nat.lt_succ_of_le (Nat.le_trans (Nat.le_of_lt heb) hsz)) (by rw [hb2.cell heb]; exact he)
        (fun w' hb3 => hT.xOper w' (hb2.trans (hb3.mono (by rw [hsz2]; exact Nat.le_succ_of_le hsz))))
      have hend : ∀ w2, Below (wr.alloc (.cells #[.int .i64 g] 23)).heap.size (wr.alloc (.cells #[.int .i64 g] 23)) w2 → w2.cell? ⟨wr.heap.size, 0, none⟩ = some (.int .i64 g) ∧ Below w.heap.size w w2 := fun w2 h3 =>
        ⟨by rw [h3.cell (p := ⟨wr.heap.size, 0, none⟩) (by rw [hsz2]; exact Nat.lt_succ_self _)]; simp, hb2.trans (h3.mono (by rw [hsz2]; exact Nat.le_succ_of_le hsz))⟩
      clear hno hL hL2 hF he heb hT hb2 hsz hsz2 hb
      go_wp2_with (go_at_call 6; refine htx.mono ?_; rintro e w2 ⟨⟨a2, rfl⟩, hb3⟩; obtain ⟨hcv, hbw⟩ := hend w2 hb3; clear hb3)
      go_ret
      exact ⟨rfl, hbw⟩

set_option maxHeartbeats 1000000 in
theorem walk4_yes (i0 : Nat) (hi0 : i0 < 4) (ta : Option Addr) (n c : Nat) (g : Int) (s : ByteArray) (w : World) (hn : n ≤ 1048576) {b off cap : Nat} {T : TypeId} {ea : Addr} (hL : Laid w.heap.size w b off cap T ea)
    (hT : TextIs w ta n c s) (hat : (s.toList == (nmOf i0).toList) = true) (hno : ∀ j, j < i0 → (s.toList == (nmOf j).toList) = false) :
    Calls Tryf.prog 4 #[.slice ta n c, .int .i64 g] w fun e w' => e = .returned (.bool true) ∧ Below w.heap.size w w' := by
  go_enter Tryf.func4, Tryf.ntmps4
  go_wp2_with (go_at_call 7; refine (small_yes _ _ _ _ _ hn).mono ?_; rintro e w' ⟨rfl, rfl⟩)
  go_loopw [5, 6] (fun a i wr => ∃ k : Nat, k ≤ 4 ∧ i = .int .i64 k ∧ ((k ≤ i0 ∧ a = .int .i64 (-1)) ∨ (i0 < k ∧ a = .int .i64 i0)) ∧ Below w.heap.size w wr) (fun _ i _ => 4 - (intOf i).toNat)
  case atStart => exact ⟨0, Nat.zero_le _, rfl, Or.inl ⟨Nat.zero_le _, rfl⟩, Below.refl _ _⟩
  case round =>
    obtain ⟨k, hk, rfl, hacc, hb⟩ := hrel
    rcases hacc with ⟨hki, rfl⟩ | ⟨hki, rfl⟩
    · have hk4 : k < 4 := by omega
      have hLr := hL.over hb
      have hcv : ∀ m, (convert 22 9 (.slice ta n c)).run Tryf.prog (wr.drewN m) = .ok (.string s) (wr.drewN m) := fun m => hT.xConv _ (below_draws hb m)
      have hst := string_quiet hLr k hk4
      by_cases hke : k = i0
      · subst hke
        have hf : ((nmOf k).toList == s.toList) = true := by rw [Bool.beq_comm]; exact hat
        clear hno hat hL hLr
        go_wp2
        go_quiet ((go_at_call 5; exact hst _))
        go_wp2
        go_roundw
        case rel => exact ⟨k + 1, by omega, by go_num, Or.inr ⟨by omega, rfl⟩, below_draws hb _⟩
        case measure => simp [intOf]; omega
      · have hf : ((nmOf k).toList == s.toList) = false := by have := hno k (by omega); rw [Bool.beq_comm]; exact this
        clear hno hat hL hLr
        go_wp2
        go_quiet ((go_at_call 5; exact hst _))
        go_wp2
        go_roundw
        case rel => exact ⟨k + 1, by omega, by go_num, Or.inl ⟨by omega, rfl⟩, below_draws hb _⟩
        case measure => simp [intOf]; omega
    · by_cases hk4 : k < 4
      · have hg0 : decide ((i0 : Int) < 0) = false := by simp
        clear hno hat hL hT
        go_wp2
        go_quiet (fail)
        go_wp2
        go_roundw
        case rel => exact ⟨k + 1, by omega, by go_num, Or.inr ⟨by omega, rfl⟩, below_draws hb _⟩
        case measure => simp [intOf]; omega
      · have hb2 := hb.alloc hb.size (.cells #[.int .i64 g] 23)
        have hL2 := hL.over hb2
        have htx := text_yes i0 b off cap wr.heap.size 0 ta n c s (.int .i64 g) (wr.alloc (.cells #[.int .i64 g] 23)) hi0 hL2.lNames T ea hL2.lBad (hT.xConv _ hb2) hL2.lEach hat hno (by simp) (by simp)
        rw [World.setCell_alloc_at _ _ _ _ _ rfl] at htx
        have hbw : Below w.heap.size w (wr.alloc (.cells #[.int .i64 i0] 23)) := hb.alloc hb.size _
        clear hno hat hL hL2 hT hb2 hb
        go_wp2_with (go_at_call 6; refine htx.mono ?_; rintro e w2 ⟨rfl, rfl⟩)
        go_ret
        exact ⟨rfl, hbw⟩
end Go.Proofs.Qxb6614292aFmt.Al
