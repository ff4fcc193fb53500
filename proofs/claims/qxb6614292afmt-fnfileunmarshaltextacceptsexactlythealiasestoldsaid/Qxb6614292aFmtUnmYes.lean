/-
  Unmarshal (9) and (*File).UnmarshalText (6) WHERE THE TEXT IS A NAME: no error, and the variable is set to the name's number.
-/
import Derived.Test.Qxb6614292aFmtNames
namespace Go.Proofs.Qxb6614292aFmt.Al
open Go.RowKit

theorem unmarshal_yes (i b off cap pb po : Nat) (ta : Option Addr) (n c : Nat) (s : ByteArray) (old bad : Value) (w : World) (hi : i < 4)
    (hcv : (convert 22 9 (.slice ta n c)).run Tryf.prog w = .ok (.string s) w)
    (hc : ∀ j, j < 4 → w.cell? ⟨b, off + j, none⟩ = some (.string (nmOf j)))
    (hat : (s.toList == (nmOf i).toList) = true) (hno : ∀ j, j < i → (s.toList == (nmOf j).toList) = false)
    (hp : w.cell? ⟨pb, po, none⟩ = some old) (hz : w.frozen? ⟨pb, po, none⟩ = false) :
    Calls Tryf.prog 9 #[.pointer (some ⟨pb, po, none⟩), .slice ta n c, .slice (some ⟨b, off, none⟩) 4 cap, bad] w fun e w' => e = .returned .nilIface ∧ w' = w.setCell ⟨pb, po, none⟩ (.int .i64 i) := by
  have hix := index_yes i b off cap s w hi hc hat hno
  clear hat hno hc
  go_enter Tryf.func9, Tryf.ntmps9
  go_wp2_with (go_at_call 11; refine hix.mono ?_; rintro e w' ⟨rfl, rfl⟩)
  go_ret
  exact ⟨rfl, rfl⟩

theorem text_yes (i b off cap pb po : Nat) (ta : Option Addr) (n c : Nat) (s : ByteArray) (old : Value) (w : World) (hi : i < 4)
    (hg : w.cell? ⟨0, 0, none⟩ = some (.slice (some ⟨b, off, none⟩) 4 cap)) (T : TypeId) (ea : Addr) (hbad : w.cell? ⟨1, 0, none⟩ = some (.iface T (.pointer (some ea))))
    (hcv : (convert 22 9 (.slice ta n c)).run Tryf.prog w = .ok (.string s) w)
    (hc : ∀ j, j < 4 → w.cell? ⟨b, off + j, none⟩ = some (.string (nmOf j)))
    (hat : (s.toList == (nmOf i).toList) = true) (hno : ∀ j, j < i → (s.toList == (nmOf j).toList) = false)
    (hp : w.cell? ⟨pb, po, none⟩ = some old) (hz : w.frozen? ⟨pb, po, none⟩ = false) :
    Calls Tryf.prog 6 #[.pointer (some ⟨pb, po, none⟩), .slice ta n c] w fun e w' => e = .returned .nilIface ∧ w' = w.setCell ⟨pb, po, none⟩ (.int .i64 i) := by
  have hun := unmarshal_yes i b off cap pb po ta n c s old (.iface T (.pointer (some ea))) w hi hcv hc hat hno hp hz
  clear hat hno hc hcv hp hz
  go_enter Tryf.func6, Tryf.ntmps6
  go_wp2_with (go_at_call 9; refine hun.mono ?_; rintro e w' ⟨rfl, rfl⟩)
  go_ret
  exact ⟨rfl, rfl⟩
end Go.Proofs.Qxb6614292aFmt.Al
