/-
  fmt.Errorf (12) BY ITS CONTRACT at this program's one format: an error that is not nil; of what was there nothing has turned.
-/
import Derived.Test.Qxb6614292aFmtFacts
namespace Go.Proofs.Qxb6614292aFmt.Al
open Go.RowKit Go.Extern.Stop Go.Stop Go.Extern

set_option maxHeartbeats 400000 in
theorem errorf_any (F : Interp) (vb : Nat) (ea : Addr) (tv : Value) (s1 js : ByteArray) (r1 : List UInt8 × List UInt8) (w : World) (hF : F.answers w.tape)
    (h0 : w.cell? ⟨vb, 0, none⟩ = some (.iface 47 (.pointer (some ea)))) (h1 : w.cell? ⟨vb, 1, none⟩ = some (.iface 22 tv)) (h2 : w.cell? ⟨vb, 2, none⟩ = some (.iface 9 (.string js)))
    (hs : w.cell? ea = some (.string s1)) (hop1 : (FmtStop.operand "fmt.errorf" true 113 false (.iface 22 tv)).run Tryf.prog w = .ok r1 w) :
    Calls Tryf.prog 12 #[.string fmtBytes, .slice (some ⟨vb, 0, none⟩) 3 3] w fun e w' => (∃ a, e = .returned (.iface 40 (.pointer (some a)))) ∧ Below w.heap.size w w' := by
  have hF' := answers_open hF
  have hop0 := op47_119 "fmt.errorf" ea s1 w hs
  have hop2 := op9_115 "fmt.errorf" js w
  have k14 := call14
  have kg := guardIs
  have kf := fmt3
  have kp := ptr40
  have ke := elem40
  have kq := isError47
  unfold fmtBytes
  go_enter Tryf.func12, Tryf.ntmps12
  go_wp2
  go_ret
  exact ⟨⟨_, rfl⟩, ((Below.refl _ w).alloc (Nat.le_refl _) _).drew⟩
end Go.Proofs.Qxb6614292aFmt.Al
