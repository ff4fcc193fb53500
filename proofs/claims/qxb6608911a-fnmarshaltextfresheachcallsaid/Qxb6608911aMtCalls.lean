/-
  THE TWO CALLEES OF 'FnMarshalTextFreshEachCall': 'zzBytes_..' (function 6) and '(CatalogFormat).MarshalText' (function 7), each by its contract.
-/
import Derived.Test.Qxb6608911aRows
import Derived.WalkKit
import Derived.WalkLawsBesides
import Derived.Below
import Derived.Laws.IdiomStrings
namespace Go.Proofs.Qxb6608911a.Mt
open Go.RowKit

/-- The length test: true where the string has at most 2^20 bytes. -/
theorem bytes_yes (s : ByteArray) (w : World) (hs : s.size ≤ 1048576) :
    Calls Try.prog 6 #[.string s] w fun e w' => e = .returned (.bool true) ∧ w = w' := by
  go_enter Try.func6, Try.ntmps6
  go_wp2
  go_ret
  exact ⟨rfl, rfl⟩

theorem bytes_no (s : ByteArray) (w : World) (hs : 1048576 < s.size) :
    Calls Try.prog 6 #[.string s] w fun e w' => e = .returned (.bool false) ∧ w = w' := by
  go_enter Try.func6, Try.ntmps6
  go_wp2
  go_ret
  exact ⟨rfl, rfl⟩

/-- What '[]byte(s)' leaves behind: one block more, whose first cells are the string's bytes, none of them frozen; of what was there nothing has turned. -/
structure Fresh (s : ByteArray) (w w' : World) : Prop where
  below : Below w.heap.size w w'
  size : w'.heap.size = w.heap.size + 1
  cell : ∀ j (hj : j < s.size), w'.cell? ⟨w.heap.size, j, none⟩ = some (.int .u8 ((s[j]'hj).toNat : Int))
  fFree : ∀ j, j < s.size → w'.frozen? ⟨w.heap.size, j, none⟩ = false

theorem fresh_of (w : World) (e : TypeId) (s : ByteArray) (cap : Nat) :
    Fresh s w ((w.alloc (.cells (bytesRow s cap) e ((bytesRow s cap).size, (bytesRow s cap).size + 1))).drew) := by
  have hsz : s.size ≤ (bytesRow s cap).size := by simp [bytesRow]
  have hheap : ((w.alloc (.cells (bytesRow s cap) e ((bytesRow s cap).size, (bytesRow s cap).size + 1))).drew).heap[w.heap.size]? = some (.cells (bytesRow s cap) e ((bytesRow s cap).size, (bytesRow s cap).size + 1)) := by
    show (w.heap.push _)[w.heap.size]? = _
    simp
  refine ⟨((Below.refl _ w).alloc (Nat.le_refl _) _).drew, by simp, fun j hj => ?_, fun j hj => ?_⟩
  · have hlt : j < s.data.size := hj
    have he : s[j]'hj = s.data[j]'hlt := rfl
    simp only [World.cell?, hheap, he]
    simp [bytesRow, Array.getElem?_append, hj]
  · simp only [World.frozen?, hheap]
    simp
    omega

/-- MarshalText: the bytes of s in a row of their own, and no error. -/
theorem marshal (s : ByteArray) (w : World) :
    Calls Try.prog 7 #[.string s] w fun e w' => (∃ cap, e = .returned (.tuple #[.slice (some ⟨w.heap.size, 0, none⟩) s.size cap, .nilIface])) ∧ Fresh s w w' := by
  have hcv := run_bytes_of_string (P := Try.prog) w 23 24 5 s Try.underlying23 Try.underlying24 Try.underlying5
  go_enter Try.func7, Try.ntmps7
  go_wp2
  go_ret2
  exact ⟨⟨_, rfl⟩, fresh_of _ _ _ _⟩

/-- The first loop's state: below the new block nothing has turned; the first k cells of the row at block b are flipped, the others are the string's bytes. -/
structure Mid (s : ByteArray) (b : Nat) (w : World) (k : Nat) (wr : World) : Prop where
  below : Below b w wr
  size : wr.heap.size = b + 1
  mDone : ∀ j (hj : j < s.size), j < k → wr.cell? ⟨b, j, none⟩ = some (.int .u8 (bits .xor .u8 ((s[j]'hj).toNat : Int) 255))
  mLeft : ∀ j (hj : j < s.size), k ≤ j → wr.cell? ⟨b, j, none⟩ = some (.int .u8 ((s[j]'hj).toNat : Int))
  mFree : ∀ j, j < s.size → wr.frozen? ⟨b, j, none⟩ = false

theorem Mid.atHead {s : ByteArray} {w w1 : World} (h : Fresh s w w1) : Mid s w.heap.size w 0 w1 :=
  ⟨h.below, h.size, fun j _ h0 => absurd h0 (Nat.not_lt_zero j), fun j hj _ => h.cell j hj, h.fFree⟩

theorem Mid.onward {s : ByteArray} {b : Nat} {w wr : World} {k : Nat} (h : Mid s b w k wr) (hk : k < s.size) :
    Mid s b w (k + 1) (wr.setCell ⟨b, k, none⟩ (.int .u8 (bits .xor .u8 ((s[k]'hk).toNat : Int) 255))) := by
  have hc := h.mLeft k hk (Nat.le_refl _)
  refine ⟨h.below.setCell (Nat.le_refl _) _, by simpa [World.setCell] using h.size, fun j hj hlt => ?_, fun j hj hle => ?_, fun j hj => (World.frozen?_setCell _ _ _ _).trans (h.mFree j hj)⟩
  · by_cases e : j = k
    · subst e
      exact World.cell?_setCell_same _ _ _ hc
    · rw [World.cell?_setCell_other _ _ _ _ (by intro e2; cases e2; omega)]
      exact h.mDone j hj (by omega)
  · rw [World.cell?_setCell_other _ _ _ _ (by intro e2; cases e2; omega)]
    exact h.mLeft j hj (by omega)

/-- The second loop's state: both rows are there, the first flipped, the second the string's bytes. -/
structure Two (s : ByteArray) (b c : Nat) (w wr : World) : Prop where
  below : Below b w wr
  tFlip : ∀ j (hj : j < s.size), wr.cell? ⟨b, j, none⟩ = some (.int .u8 (bits .xor .u8 ((s[j]'hj).toNat : Int) 255))
  tSame : ∀ j (hj : j < s.size), wr.cell? ⟨c, j, none⟩ = some (.int .u8 ((s[j]'hj).toNat : Int))

theorem Two.atHead {s : ByteArray} {b : Nat} {w wr w2 : World} (h : Mid s b w s.size wr) (f : Fresh s wr w2) : Two s b wr.heap.size w w2 := by
  have hb : b < wr.heap.size := by rw [h.size]; omega
  refine ⟨h.below.trans (f.below.mono (by omega)), fun j hj => ?_, f.cell⟩
  rw [f.below.cell (p := ⟨b, j, none⟩) hb]
  exact h.mDone j hj hj

theorem Two.drewN {s : ByteArray} {b c : Nat} {w wr : World} (h : Two s b c w wr) (n : Nat) : Two s b c w (wr.drewN n) :=
  ⟨⟨h.below.os, h.below.tape, h.below.output, h.below.size, h.below.block⟩, h.tFlip, h.tSame⟩
end Go.Proofs.Qxb6608911a.Mt
