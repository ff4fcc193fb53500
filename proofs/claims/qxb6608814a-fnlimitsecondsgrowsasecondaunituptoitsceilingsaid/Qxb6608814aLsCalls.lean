/-
  THE CALLEES OF 'FnLimitSecondsGrowsASecondAUnitUpToItsCeiling', each by its contract: the length test (4), ZZlimitSeconds (5), ZZnewLimit (6), (Limit).seconds (7).
-/
import Derived.Test.Qxb6608814aRows
import Derived.WalkKit
import Derived.WalkLawsBesides
import Derived.Below
namespace Go.Proofs.Qxb6608814a.Ls
open Go.RowKit

/-- How long a limit of n seconds waits. -/
def secsOf (n : Int) : Int := if 9223372036 < n then 9223372036854775807 else n * 1000000000

theorem seconds_hi (n : Int) (b : Bool) (f : ByteArray) (w : World) (h : 9223372036 < n) :
    Calls Try.prog 7 #[.agg #[.int .i64 n, .bool b, .string f]] w fun e w' => e = .returned (.int .i64 9223372036854775807) ∧ Grown w w' := by
  go_enter Try.func7, Try.ntmps7
  go_wp2
  go_ret
  exact ⟨rfl, (Grown.refl _).alloc _ _⟩

theorem seconds_lo (n : Int) (b : Bool) (f : ByteArray) (w : World) (h : n ≤ 9223372036) (h0 : 0 ≤ n) :
    Calls Try.prog 7 #[.agg #[.int .i64 n, .bool b, .string f]] w fun e w' => e = .returned (.int .i64 (n * 1000000000)) ∧ Grown w w' := by
  go_enter Try.func7, Try.ntmps7
  go_wp2
  go_ret
  exact ⟨rfl, (Grown.refl _).alloc _ _⟩

theorem seconds_any (n : Int) (b : Bool) (f : ByteArray) (w : World) (h0 : 0 ≤ n) :
    Calls Try.prog 7 #[.agg #[.int .i64 n, .bool b, .string f]] w fun e w' => e = .returned (.int .i64 (secsOf n)) ∧ Grown w w' := by
  by_cases h : 9223372036 < n
  · rw [secsOf, if_pos h]
    exact seconds_hi n b f w h
  · rw [secsOf, if_neg h]
    exact seconds_lo n b f w (by omega) h0

theorem grown_trans {a b c : World} (h : Grown a b) (k : Grown b c) : Grown a c :=
  ⟨World.keptBut_trans h.1 (World.keptBut_mono (fun _ f => f.elim) k.1), fun x => (k.2.1 x).trans (h.2.1 x), Nat.le_trans h.2.2 k.2.2⟩

theorem limit_any (n : Int) (b : Bool) (f : ByteArray) (w : World) (h0 : 0 ≤ n) :
    Calls Try.prog 5 #[.agg #[.int .i64 n, .bool b, .string f]] w fun e w' => e = .returned (.int .i64 (secsOf n)) ∧ Grown w w' := by
  go_enter Try.func5, Try.ntmps5
  go_wp2_with (go_at_call 7; refine (seconds_any _ _ _ _ h0).mono ?_; rintro e w' ⟨rfl, hg⟩)
  go_ret
  exact ⟨rfl, grown_trans ((Grown.refl _).alloc _ _) hg⟩

theorem newLimit_any (n : Int) (b : Bool) (f : ByteArray) (w : World) :
    Calls Try.prog 6 #[.int .i64 n, .bool b, .string f] w fun e w' => e = .returned (.agg #[.int .i64 n, .bool b, .string f]) ∧ Grown w w' := by
  go_enter Try.func6, Try.ntmps6
  go_wp2
  exact bodyPost_ret (v := .agg #[.int .i64 n, .bool b, .string f]) (by simp [results, Try.results6, go_sem]) rfl ⟨rfl, by repeat (first | exact Grown.refl _ | apply Grown.drew | apply Grown.alloc)⟩

/-- The length test lets the two strings by: both lengths together are at most 2^20. -/
theorem bytes_yes (a b : Int) (x y : Bool) (f g : ByteArray) (w : World) (hs : f.size + g.size ≤ 1048576) :
    Calls Try.prog 4 #[.int .i64 a, .bool x, .string f, .int .i64 b, .bool y, .string g] w fun e w' => e = .returned (.bool true) ∧ w = w' := by
  go_enter Try.func4, Try.ntmps4
  go_wp2
  go_ret
  exact ⟨rfl, rfl⟩

theorem bytes_no (a b : Int) (x y : Bool) (f g : ByteArray) (w : World) (hf : f.size ≤ maxLen) (hg : g.size ≤ maxLen) (hs : 1048576 < f.size + g.size) :
    Calls Try.prog 4 #[.int .i64 a, .bool x, .string f, .int .i64 b, .bool y, .string g] w fun e w' => e = .returned (.bool false) ∧ w = w' := by
  unfold maxLen at hf hg
  by_cases c1 : 1048576 < f.size
  · go_enter Try.func4, Try.ntmps4
    go_wp2
    go_ret
    exact ⟨rfl, rfl⟩
  · by_cases c2 : 1048576 < g.size
    · go_enter Try.func4, Try.ntmps4
      go_wp2
      go_ret
      exact ⟨rfl, rfl⟩
    · go_enter Try.func4, Try.ntmps4
      go_wp2
      go_ret
      exact ⟨rfl, rfl⟩
end Go.Proofs.Qxb6608814a.Ls
