import Derived.Test.Qxb6001038aRows
import Derived.WalkKit
import Derived.ProofKit
import Derived.Handy
namespace Go.Proofs.Qxb6001038a
open Go.RowKit
set_option linter.unusedVariables false

/-- The i-th decimal digit's byte. -/
def dg (n : Int) : UInt8 := UInt8.ofNat (48 + n % 10).toNat
/-- pad6 k, as bytes. -/
def p6 (k : Int) : ByteArray := ⟨#[dg (k / 10 / 10 / 10 / 10 / 10), dg (k / 10 / 10 / 10 / 10), dg (k / 10 / 10 / 10), dg (k / 10 / 10), dg (k / 10), dg k]⟩

theorem conv6 (w : World) (d0 d1 d2 d3 d4 d5 : Int) :
    (convert 22 9 (.slice (some ⟨w.heap.size, 0, none⟩) 6 6)).run Try.prog (w.alloc (.cells #[.int .u8 d0, .int .u8 d1, .int .u8 d2, .int .u8 d3, .int .u8 d4, .int .u8 d5] 82)) =
      .ok (.string ⟨#[UInt8.ofNat d0.toNat, UInt8.ofNat d1.toNat, UInt8.ofNat d2.toNat, UInt8.ofNat d3.toNat, UInt8.ofNat d4.toNat, UInt8.ofNat d5.toNat]⟩)
        (w.alloc (.cells #[.int .u8 d0, .int .u8 d1, .int .u8 d2, .int .u8 d3, .int .u8 d4, .int .u8 d5] 82)) := by
  rw [run_convert_bytes_string _ 22 9 5 _ _ _ Try.underlying22 Try.underlying5 Try.underlying9]
  rw [run_bytesToString _ _ _ _ [d0, d1, d2, d3, d4, d5]]
  · rfl
  · simp [go_sem, loadCells, loadCellsFrom]

set_option maxHeartbeats 1000000 in
theorem pad6_any (k : Int) (w : World) (h0 : 0 ≤ k) (h1 : k < 1000000) :
    Calls Try.prog 33 #[.int .i64 k] w fun e w' => e = .returned (.string (p6 k)) ∧ Below w.heap.size w w' := by
  have hconv := conv6 w
  go_enter Try.func33, Try.ntmps33
  go_wp2
  go_rounds 7
  go_ret
  exact ⟨rfl, (Below.refl _ _).alloc (Nat.le_refl _) _⟩

end Go.Proofs.Qxb6001038a
