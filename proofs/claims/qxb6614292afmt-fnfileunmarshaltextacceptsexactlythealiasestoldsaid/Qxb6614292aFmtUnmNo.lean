/-
  Unmarshal (9) and (*File).UnmarshalText (6) WHERE THE TEXT IS NO NAME: an error that is not nil; of what was there nothing has turned.
-/
import Derived.Test.Qxb6614292aFmtNames
import Derived.Test.Qxb6614292aFmtErrorf
import Derived.Test.Qxb6614292aFmtShelf
namespace Go.Proofs.Qxb6614292aFmt.Al
open Go.RowKit Go.Extern.Stop Go.Stop Go.Extern

theorem join4 (b off cap : Nat) (w : World) (hb : b < w.heap.size) (hcap : 4 ≤ cap) (hc : ∀ j, j < 4 → w.cell? ⟨b, off + j, none⟩ = some (.string (nmOf j))) :
    Calls Tryf.prog 13 #[.slice (some ⟨b, off, none⟩) 4 cap, .string ⟨#[44, 32]⟩] w fun e w' => (∃ js, e = .returned (.string js)) ∧ Below w.heap.size w w' := by
  refine (Tryf.strings_Join b off cap [nmOf 0, nmOf 1, nmOf 2, nmOf 3] ⟨#[44, 32]⟩ w ?_ hb (by decide) hcap (by decide)).mono ?_
  · intro j x hj
    match j, hj with
    | 0, hj => cases hj; exact hc 0 (by omega)
    | 1, hj => cases hj; exact hc 1 (by omega)
    | 2, hj => cases hj; exact hc 2 (by omega)
    | 3, hj => cases hj; exact hc 3 (by omega)
  · rintro e w' ⟨rfl, h⟩
    exact ⟨⟨_, rfl⟩, h⟩

theorem errorf_behind (F : Interp) (ea : Addr) (ta : Option Addr) (n c : Nat) (s1 : ByteArray) (w : World) (hF : F.answers w.tape) (he : ea.block < w.heap.size) (hs : w.cell? ea = some (.string s1))
    (hop : ∀ w', Below w.heap.size w w' → ∃ r, (FmtStop.operand "fmt.errorf" true 113 false (.iface 22 (.slice ta n c))).run Tryf.prog w' = .ok r w') (w1 : World) (js : ByteArray) (hb : Below w.heap.size w w1) :
    Calls Tryf.prog 12 #[.string ⟨#[37, 119, 32, 37, 113, 58, 32, 119, 97, 110, 116, 32, 111, 110, 101, 32, 111, 102, 32, 37, 115]⟩, .slice (some ⟨w1.heap.size, 0, none⟩) 3 3] (w1.alloc (.cells #[.iface 47 (.pointer (some ea)), .iface 22 (.slice ta n c), .iface 9 (.string js)] 20))
      fun e w' => (∃ a, e = .returned (.iface 40 (.pointer (some a)))) ∧ Below w.heap.size w w' := by
  have hb2 := hb.alloc hb.size (.cells #[.iface 47 (.pointer (some ea)), .iface 22 (.slice ta n c), .iface 9 (.string js)] 20)
  obtain ⟨r, hr⟩ := hop _ hb2
  refine (errorf_any F w1.heap.size ea (.slice ta n c) s1 js r _ (by show F.answers w1.tape; rw [hb.tape]; exact hF) (by simp) (by simp) (by simp) (by rw [hb2.cell he]; exact hs) hr).mono ?_
  rintro e w' ⟨h1, h2⟩
  exact ⟨h1, hb2.trans (h2.mono (by simpa using Nat.le_succ_of_le hb.size))⟩

set_option maxHeartbeats 400000 in
theorem unmarshal_no (F : Interp) (b off cap : Nat) (ea : Addr) (p : Value) (ta : Option Addr) (n c : Nat) (s s1 : ByteArray) (w : World) (hF : F.answers w.tape)
    (hcv : (convert 22 9 (.slice ta n c)).run Tryf.prog w = .ok (.string s) w)
    (hb : b < w.heap.size) (hcap : 4 ≤ cap) (hc : ∀ j, j < 4 → w.cell? ⟨b, off + j, none⟩ = some (.string (nmOf j)))
    (hno : ∀ j, j < 4 → (s.toList == (nmOf j).toList) = false)
    (he : ea.block < w.heap.size) (hs : w.cell? ea = some (.string s1))
    (hop : ∀ w', Below w.heap.size w w' → ∃ r, (FmtStop.operand "fmt.errorf" true 113 false (.iface 22 (.slice ta n c))).run Tryf.prog w' = .ok r w') :
    Calls Tryf.prog 9 #[p, .slice ta n c, .slice (some ⟨b, off, none⟩) 4 cap, .iface 47 (.pointer (some ea))] w fun e w' => (∃ a, e = .returned (.iface 40 (.pointer (some a)))) ∧ Below w.heap.size w w' := by
  have hix := index_no b off cap s w hc hno
  have hj := join4 b off cap w hb hcap hc
  have herr := errorf_behind F ea ta n c s1 w hF he hs hop
  clear hno hc hs hop hF
  go_enter Tryf.func9, Tryf.ntmps9
  go_wp2_with (first | (go_at_call 11; refine hix.mono ?_; rintro e w' ⟨rfl, rfl⟩) | (go_at_call 13; refine hj.mono ?_; rintro e w1 ⟨⟨js, rfl⟩, hb1⟩) | (go_at_call 12; refine (herr _ _ hb1).mono ?_; rintro e w2 ⟨⟨a2, rfl⟩, hb2⟩))
  go_ret
  exact ⟨⟨_, rfl⟩, hb2⟩

theorem text_no (F : Interp) (b off cap : Nat) (ea : Addr) (p : Value) (ta : Option Addr) (n c : Nat) (s s1 : ByteArray) (w : World) (hF : F.answers w.tape)
    (hg : w.cell? ⟨0, 0, none⟩ = some (.slice (some ⟨b, off, none⟩) 4 cap)) (hbad : w.cell? ⟨1, 0, none⟩ = some (.iface 47 (.pointer (some ea))))
    (hcv : (convert 22 9 (.slice ta n c)).run Tryf.prog w = .ok (.string s) w)
    (hb : b < w.heap.size) (hcap : 4 ≤ cap) (hc : ∀ j, j < 4 → w.cell? ⟨b, off + j, none⟩ = some (.string (nmOf j)))
    (hno : ∀ j, j < 4 → (s.toList == (nmOf j).toList) = false)
    (he : ea.block < w.heap.size) (hs : w.cell? ea = some (.string s1))
    (hop : ∀ w', Below w.heap.size w w' → ∃ r, (FmtStop.operand "fmt.errorf" true 113 false (.iface 22 (.slice ta n c))).run Tryf.prog w' = .ok r w') :
    Calls Tryf.prog 6 #[p, .slice ta n c] w fun e w' => (∃ a, e = .returned (.iface 40 (.pointer (some a)))) ∧ Below w.heap.size w w' := by
  have hun := unmarshal_no F b off cap ea p ta n c s s1 w hF hcv hb hcap hc hno he hs hop
  clear hno hc hs hop hF hcv
  go_enter Tryf.func6, Tryf.ntmps6
  go_wp2_with (go_at_call 9; refine hun.mono ?_; rintro e w' ⟨⟨a2, rfl⟩, hb2⟩)
  go_ret
  exact ⟨⟨_, rfl⟩, hb2⟩
end Go.Proofs.Qxb6614292aFmt.Al
