/-
  THE CALLEES THAT BOTH LAWS SHARE, each by its contract: enumtext.Name (8), (File).String (5), slices.Index at strings (11). Over the four names as the row's list lays them.
-/
import Derived.Test.Qxb6614292aFmtRows
import Derived.WalkKit
import Derived.WalkLawsBesides
import Derived.WalkSpells
import Derived.Below
namespace Go.Proofs.Qxb6614292aFmt.Al
open Go.RowKit

/-- The four names, by their number. -/
def nmOf : Nat → ByteArray
  | 0 => ⟨#[99, 108, 97, 117, 100, 101]⟩
  | 1 => ⟨#[97, 103, 101, 110, 116, 115]⟩
  | 2 => ⟨#[111, 114, 103]⟩
  | _ => ⟨#[109, 101, 116, 104, 111, 100]⟩

/-- Name at a number of the set: the text of that number. -/
theorem name_in (k b off cap : Nat) (s f : ByteArray) (w : World) (hk : k < 4) (hc : w.cell? ⟨b, off + k, none⟩ = some (.string s)) :
    Calls Tryf.prog 8 #[.int .i64 k, .slice (some ⟨b, off, none⟩) 4 cap, .string f] w fun e w' => e = .returned (.string s) ∧ w = w' := by
  go_enter Tryf.func8, Tryf.ntmps8
  go_wp2
  go_ret
  exact ⟨rfl, rfl⟩

/-- String at a number of the set. -/
theorem string_in (k b off cap : Nat) (s : ByteArray) (w : World) (hk : k < 4) (hg : w.cell? ⟨0, 0, none⟩ = some (.slice (some ⟨b, off, none⟩) 4 cap)) (hc : w.cell? ⟨b, off + k, none⟩ = some (.string s)) :
    Calls Tryf.prog 5 #[.int .i64 k] w fun e w' => e = .returned (.string s) ∧ w = w' := by
  go_enter Tryf.func5, Tryf.ntmps5
  go_wp2_with (go_at_call 8; refine (name_in k b off cap s _ _ hk hc).mono ?_; rintro e w' ⟨rfl, rfl⟩)
  go_ret
  exact ⟨rfl, rfl⟩

/-- slices.Index: the first place at which s stands. -/
theorem index_yes (i b off cap : Nat) (s : ByteArray) (w : World) (hi : i < 4) (hc : ∀ j, j < 4 → w.cell? ⟨b, off + j, none⟩ = some (.string (nmOf j)))
    (hat : (s.toList == (nmOf i).toList) = true) (hno : ∀ j, j < i → (s.toList == (nmOf j).toList) = false) :
    Calls Tryf.prog 11 #[.slice (some ⟨b, off, none⟩) 4 cap, .string s] w fun e w' => e = .returned (.int .i64 i) ∧ w = w' := by
  go_enter Tryf.func11, Tryf.ntmps11
  go_wp2
  go_loop [8] (fun c => ∃ k : Nat, k ≤ i ∧ c = .int .i64 k) (fun c => i - (intOf c).toNat)
  case atStart => exact ⟨0, Nat.zero_le _, rfl⟩
  case round =>
    obtain ⟨k, hk, rfl⟩ := hrel
    have hck := hc k (by omega)
    have hk4 : k < 4 := by omega
    clear hc
    by_cases he : k = i
    · subst he
      clear hno
      go_wp2
      go_ret
      exact ⟨rfl, rfl⟩
    · have hf := hno k (by omega)
      clear hno hat
      go_wp2
      go_round
      case rel => exact ⟨k + 1, by omega, by go_num⟩
      case measure => simp [intOf]; omega

/-- slices.Index: -1 where s stands nowhere. -/
theorem index_no (b off cap : Nat) (s : ByteArray) (w : World) (hc : ∀ j, j < 4 → w.cell? ⟨b, off + j, none⟩ = some (.string (nmOf j)))
    (hno : ∀ j, j < 4 → (s.toList == (nmOf j).toList) = false) :
    Calls Tryf.prog 11 #[.slice (some ⟨b, off, none⟩) 4 cap, .string s] w fun e w' => e = .returned (.int .i64 (-1)) ∧ w = w' := by
  go_enter Tryf.func11, Tryf.ntmps11
  go_wp2
  go_loop [8] (fun c => ∃ k : Nat, k ≤ 4 ∧ c = .int .i64 k) (fun c => 4 - (intOf c).toNat)
  case atStart => exact ⟨0, Nat.zero_le _, rfl⟩
  case round =>
    obtain ⟨k, hk, rfl⟩ := hrel
    by_cases hk4 : k < 4
    · have hck := hc k hk4
      have hf := hno k hk4
      clear hno hc
      go_wp2
      go_round
      case rel => exact ⟨k + 1, by omega, by go_num⟩
      case measure => simp [intOf]; omega
    · clear hno hc
      go_wp2
      go_ret
      exact ⟨rfl, rfl⟩
end Go.Proofs.Qxb6614292aFmt.Al
