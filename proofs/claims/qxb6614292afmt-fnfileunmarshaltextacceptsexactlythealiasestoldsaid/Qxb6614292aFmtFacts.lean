/-
  THE CLOSED FACTS FOR THE WALK OVER fmt.Errorf's STOP AT THIS DUMP (after the guide's own prints for other dumps), and fmt.Errorf (12) BY ITS CONTRACT at this program's one format: it hands back an error that is not nil; of what was there nothing has turned.
-/
import Derived.Test.Qxb6614292aFmtRows
import Derived.WalkKit
import Derived.WalkLawsBesides
import Derived.WalkSpells
import Derived.Below
import Derived.Laws.Cells
import Derived.Stop.CallBack
import Derived.Stop.IfaceNil
import GoSem.ClaimData
namespace Go.Proofs.Qxb6614292aFmt.Al
open Go.RowKit Go.Extern.Stop Go.Stop Go.Extern

theorem call14 (args : Array Value) (w : World) : (callFunc 14 args).run Tryf.prog w = ((FmtStop.errorf #[9, 38] #[26] args).run Tryf.prog w).andThen fun v w' => .ok (.value v) w' :=
  run_callFunc_extern Tryf.func14 (by kernel_rfl) (by kernel_rfl) (by kernel_rfl) (by kernel_rfl) args w
theorem guardIs (name : String) (w : World) : (FmtStop.guard name).run Tryf.prog w = .ok () w := by kernel_rfl

/-- The format. -/
def fmtBytes : ByteArray := ⟨#[37, 119, 32, 37, 113, 58, 32, 119, 97, 110, 116, 32, 111, 110, 101, 32, 111, 102, 32, 37, 115]⟩
theorem fmt3 (w : World) : (FmtDoors.printed ⟨#[37, 119, 32, 37, 113, 58, 32, 119, 97, 110, 116, 32, 111, 110, 101, 32, 111, 102, 32, 37, 115]⟩ 3).run Tryf.prog w = .ok [(0, 119, false), (1, 113, false), (2, 115, false)] w := by kernel_rfl

theorem op9_115 (name : String) (x : ByteArray) (w : World) : (FmtStop.operand name true 115 false (.iface 9 (.string x))).run Tryf.prog w = .ok (12 :: FmtStop.pack Tryf.t9.str.toUTF8.data.toList, FmtStop.pack x.data.toList) w := by kernel_rfl

theorem ptr40 (w : World) : (FmtStop.ptrTo "fmt.wrapError").run Tryf.prog w = .ok 40 w := by kernel_rfl
theorem elem40 (w : World) : (elemOf 40).run Tryf.prog w = .ok 70 w := by kernel_rfl
theorem isError47 (w : World) : (FmtDoors.textMethod 47 "Error").run Tryf.prog w = .ok true w := by kernel_rfl

/-- The sentinel under w. -/
theorem op47_119 (name : String) (a : Addr) (s : ByteArray) (w : World) (hc : w.cell? a = some (.string s)) :
    (FmtStop.operand name true 119 false (.iface 47 (.pointer (some a)))).run Tryf.prog w = .ok (14 :: FmtStop.pack Tryf.t47.str.toUTF8.data.toList, s.data.toList) w := by
  have h1 : (typeStr 47).run Tryf.prog w = .ok Tryf.t47.str w := by kernel_rfl
  have d2 : Tryf.t47.desc = .pointer 49 := rfl
  have d3 : Tryf.t49.desc = .named "errors.errorString" 48 := rfl
  simp [FmtStop.operand, h1, d2, d3, run_load, hc]

theorem value5 (name : String) (x : Int) (w : World) : (FmtStop.value name FmtStop.depth 5 [.int .u8 x]).run Tryf.prog w = .ok (digits 8 (x % 2 ^ 64).toNat) w := by kernel_rfl
theorem values5 (name : String) (w : World) : ∀ xs : List Int, (List.mapM ((fun c => FmtStop.value name FmtStop.depth 5 [c]) ∘ Value.int IntKind.u8) xs).run Tryf.prog w = .ok (xs.map fun x => digits 8 (x % 18446744073709551616).toNat) w
  | [] => by simp [List.mapM_nil]
  | x :: xs => by
    have ih := values5 name w xs
    have h := value5 name x w
    simp [List.mapM_cons, h, ih, Result.andThen]

/-- A slice of bytes under q, wherever it lies: read, and nothing turned. -/
theorem op22_113 (name : String) (a : Addr) (cap : Nat) (xs : List Int) (w : World) (hc : ∀ j v, (xs.map (Value.int .u8))[j]? = some v → w.cell? (a.add j) = some v) :
    ∃ r, (FmtStop.operand name true 113 false (.iface 22 (.slice (some a) xs.length cap))).run Tryf.prog w = .ok r w := by
  have h1 : (typeStr 22).run Tryf.prog w = .ok Tryf.t22.str w := by kernel_rfl
  have hb : (FmtStop.bare (FmtStop.asked true 113 false) 22).run Tryf.prog w = .ok true w := by kernel_rfl
  have hs : (FmtStop.scalar 5).run Tryf.prog w = .ok true w := by kernel_rfl
  have hy : (Extern.Stop.isByte 5).run Tryf.prog w = .ok true w := by kernel_rfl
  have hw : Tryf.prog.funcs.any (·.name == FmtStop.writeWord) = true := by kernel_rfl
  have hsh : (FmtStop.shape name (FmtStop.asked true 113 false) FmtStop.depth 5).run Tryf.prog w = .ok (6 :: FmtStop.pack Tryf.t5.str.toUTF8.data.toList) w := by kernel_rfl
  have hl := run_loadCells_list (P := Tryf.prog) w a (xs.map (Value.int .u8)) hc
  rw [List.length_map] at hl
  refine ⟨(13 :: (FmtStop.pack Tryf.t22.str.toUTF8.data.toList ++ 6 :: FmtStop.pack Tryf.t5.str.toUTF8.data.toList), 1 :: (digits 8 xs.length ++ (xs.map fun x => digits 8 (x % 18446744073709551616).toNat).flatten)), ?_⟩
  simp [FmtStop.operand, h1, hb, hs, hy, hsh, hl, values5]
  intro hno
  obtain ⟨i, hi, _, _, he⟩ := Array.any_iff_exists.1 hw
  exact absurd (by simpa using he) (hno i hi)

theorem op22_nil (name : String) (w : World) : ∃ r, (FmtStop.operand name true 113 false (.iface 22 (.slice none 0 0))).run Tryf.prog w = .ok r w :=
  ⟨(13 :: (FmtStop.pack Tryf.t22.str.toUTF8.data.toList ++ 6 :: FmtStop.pack Tryf.t5.str.toUTF8.data.toList), [0]), by kernel_rfl⟩
end Go.Proofs.Qxb6614292aFmt.Al
