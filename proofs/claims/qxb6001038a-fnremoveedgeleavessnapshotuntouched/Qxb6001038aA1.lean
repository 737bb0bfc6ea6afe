import Derived.Test.Qxb6001038aRows
import Derived.WalkKit
import Derived.ProofKit
namespace Go.Proofs.Qxb6001038a
open Go.RowKit
set_option linter.unusedVariables false

theorem numEntries_any (n : Nat) (ap : Option Addr) (len cap : Nat) (w : World) (h : w.cell? ⟨n, 0, none⟩ = some (.slice ap len cap)) :
    Calls Try.prog 14 #[.pointer (some ⟨n, 0, none⟩)] w fun e w' => e = .returned (.int .i64 len) ∧ w' = w := by
  go_enter Try.func14, Try.ntmps14
  go_wp2
  go_ret
  exact ⟨rfl, rfl⟩

theorem numChildren_any (n : Nat) (ap : Option Addr) (len cap : Nat) (w : World) (h : w.cell? ⟨n, 1, none⟩ = some (.slice ap len cap)) :
    Calls Try.prog 34 #[.pointer (some ⟨n, 0, none⟩)] w fun e w' => e = .returned (.int .i64 len) ∧ w' = w := by
  go_enter Try.func34, Try.ntmps34
  go_wp2
  go_ret
  exact ⟨rfl, rfl⟩

theorem child_any (n b i : Nat) (len cap : Nat) (c : Option Addr) (w : World) (h : w.cell? ⟨n, 1, none⟩ = some (.slice (some ⟨b, 0, none⟩) len cap)) (hi : i < len)
    (hc : w.cell? ⟨b, i, none⟩ = some (.pointer c)) :
    Calls Try.prog 15 #[.pointer (some ⟨n, 0, none⟩), .int .i64 i] w fun e w' => e = .returned (.pointer c) ∧ w' = w := by
  go_enter Try.func15, Try.ntmps15
  go_wp2
  go_ret
  exact ⟨rfl, rfl⟩

theorem key_any (n b i : Nat) (len cap : Nat) (s : ByteArray) (w : World) (h : w.cell? ⟨n, 0, none⟩ = some (.slice (some ⟨b, 0, none⟩) len cap)) (hi : i < len)
    (hc : w.cell? ⟨b, i * 4, none⟩ = some (.string s)) :
    Calls Try.prog 35 #[.pointer (some ⟨n, 0, none⟩), .int .i64 i] w fun e w' => e = .returned (.string s) ∧ w' = w := by
  go_enter Try.func35, Try.ntmps35
  go_wp2
  go_ret
  exact ⟨rfl, rfl⟩

end Go.Proofs.Qxb6001038a
