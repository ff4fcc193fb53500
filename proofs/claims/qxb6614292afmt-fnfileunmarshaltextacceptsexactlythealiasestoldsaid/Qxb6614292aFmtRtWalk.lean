/-
  THE WALK OF 'FnFileStringUnmarshalRoundTrip' (function 3).
-/
import Derived.Test.Qxb6614292aFmtUnmYes
import Derived.Laws.IdiomStrings
namespace Go.Proofs.Qxb6614292aFmt.Al
open Go.RowKit

/-- What the row's list gives the walks: both variables' cells, the four names; all of it lies below block B. -/
structure Laid (B : Nat) (w : World) (b off cap : Nat) (T : TypeId) (ea : Addr) : Prop where
  lNames : w.cell? ⟨0, 0, none⟩ = some (.slice (some ⟨b, off, none⟩) 4 cap)
  lBad : w.cell? ⟨1, 0, none⟩ = some (.iface T (.pointer (some ea)))
  lEach : ∀ j, j < 4 → w.cell? ⟨b, off + j, none⟩ = some (.string (nmOf j))
  lOne : 1 < B
  lRow : b < B

theorem Laid.over {B : Nat} {w w' : World} {b off cap : Nat} {T : TypeId} {ea : Addr} (h : Laid B w b off cap T ea) (hb : Below B w w') : Laid B w' b off cap T ea :=
  ⟨(hb.cell (p := ⟨0, 0, none⟩) (Nat.lt_trans Nat.zero_lt_one h.lOne)).trans h.lNames, (hb.cell (p := ⟨1, 0, none⟩) h.lOne).trans h.lBad, fun j hj => (hb.cell (p := ⟨b, off + j, none⟩) h.lRow).trans (h.lEach j hj), h.lOne, h.lRow⟩

/-- What '[]byte(s)' leaves behind. -/
structure Fresh (s : ByteArray) (w w' : World) : Prop where
  fBelow : Below w.heap.size w w'
  fSize : w'.heap.size = w.heap.size + 1
  fCell : ∀ j (hj : j < s.data.toList.length), w'.cell? ⟨w.heap.size, j, none⟩ = some (.int .u8 ((s.data.toList[j]).toNat : Int))

theorem conv_fresh (s : ByteArray) (w : World) :
    ∃ cap w', (convert 9 22 (.string s)).run Tryf.prog w = .ok (.slice (some ⟨w.heap.size, 0, none⟩) s.size cap) w' ∧ Fresh s w w' := by
  refine ⟨_, _, run_bytes_of_string (P := Tryf.prog) w 9 22 5 s Tryf.underlying9 Tryf.underlying22 Tryf.underlying5, ((Below.refl _ w).drew).alloc (Nat.le_refl _) _, by simp, fun j hj => ?_⟩
  have hlt : j < s.size := by simpa using hj
  have hh : ∀ (X : Obj), (w.drew.alloc X).heap[w.heap.size]? = some X := fun X => by
    show (w.heap.push X)[w.heap.size]? = _
    simp
  simp only [World.cell?, hh]
  simp [bytesRow, Array.getElem?_append, hlt]

/-- Back again: the string of a row of bytes. -/
theorem conv_back {s : ByteArray} {w w' : World} (h : Fresh s w w') {B : Nat} {wx : World} (hB : w.heap.size < B) (hb : Below B w' wx) (cap : Nat) :
    (convert 22 9 (.slice (some ⟨w.heap.size, 0, none⟩) s.size cap)).run Tryf.prog wx = .ok (.string s) wx := by
  have hl : s.data.toList.length = s.size := by simp
  have := run_convert_bytes_back (P := Tryf.prog) wx 22 9 5 ⟨w.heap.size, 0, none⟩ cap s.data.toList Tryf.underlying22 Tryf.underlying5 Tryf.underlying9 (fun j hj => by
    have e : (⟨w.heap.size, 0, none⟩ : Addr).add j = ⟨w.heap.size, j, none⟩ := by simp [Addr.add]; omega
    rw [e, hb.cell (p := ⟨w.heap.size, j, none⟩) hB]
    exact h.fCell j hj)
  rw [hl] at this
  simpa using this

theorem walk3_out (f g : Int) (w : World) (h : f < 0 ∨ 3 < f) :
    Calls Tryf.prog 3 #[.int .i64 f, .int .i64 g] w fun e w' => e = .returned (.bool true) ∧ Below w.heap.size w w' := by
  by_cases h0 : f < 0
  · clear h
    go_enter Tryf.func3, Tryf.ntmps3
    go_wp2
    go_ret
    exact ⟨rfl, Below.refl _ _⟩
  · have h3 : 3 < f := by omega
    clear h
    go_enter Tryf.func3, Tryf.ntmps3
    go_wp2
    go_ret
    exact ⟨rfl, Below.refl _ _⟩

/-- No two of the four names are one. -/
theorem names_apart : ∀ k, k < 4 → ∀ j, j < k → ((nmOf k).toList == (nmOf j).toList) = false := by
  simp only [ByteArray.toList_eq]
  decide

theorem walk3_in (k : Nat) (g : Int) (w : World) (hk : k < 4) {b off cap : Nat} {T : TypeId} {ea : Addr} (hL : Laid w.heap.size w b off cap T ea) :
    Calls Tryf.prog 3 #[.int .i64 k, .int .i64 g] w fun e w' => e = .returned (.bool true) ∧ Below w.heap.size w w' := by
  have hst := string_in k b off cap (nmOf k) w hk hL.lNames (hL.lEach k hk)
  obtain ⟨cap1, W1, hcv, hf⟩ := conv_fresh (nmOf k) w
  have htx : ∀ x : Int, Calls Tryf.prog 6 #[.pointer (some ⟨W1.heap.size, 0, none⟩), .slice (some ⟨w.heap.size, 0, none⟩) (nmOf k).size cap1] (W1.alloc (.cells #[.int .i64 x] 23)) fun e w' => e = .returned .nilIface ∧ w' = W1.alloc (.cells #[.int .i64 k] 23) := by
    intro x
    have hb1 : Below W1.heap.size W1 (W1.alloc (.cells #[.int .i64 x] 23)) := (Below.refl _ _).alloc (Nat.le_refl _) _
    have hL1 := hL.over (hf.fBelow.trans (hb1.mono (by rw [hf.fSize]; omega)))
    have hback := conv_back hf (by rw [hf.fSize]; omega) hb1 cap1
    refine (text_yes k b off cap W1.heap.size 0 _ _ _ (nmOf k) (.int .i64 x) _ hk hL1.lNames T ea hL1.lBad hback hL1.lEach (by simp) (names_apart k hk) (by simp) (by simp)).mono ?_
    rintro e w' ⟨rfl, rfl⟩
    exact ⟨rfl, by rw [World.setCell_alloc_at _ _ _ _ _ rfl]; rfl⟩
  have hsz : w.heap.size < W1.heap.size := by rw [hf.fSize]; omega
  have hbel : Below w.heap.size w (W1.alloc (.cells #[.int .i64 k] 23)) := hf.fBelow.alloc (Nat.le_of_lt hsz) _
  clear hL hf
  go_enter Tryf.func3, Tryf.ntmps3
  go_wp2_with (first | (go_at_call 5; refine hst.mono ?_; rintro e w' ⟨rfl, rfl⟩) | (go_at_call 6; refine (htx _).mono ?_; rintro e w' ⟨rfl, rfl⟩))
  go_ret
  exact ⟨rfl, hbel⟩
end Go.Proofs.Qxb6614292aFmt.Al
