import Derived.Test.Qxb6600422aL1
import Derived.Deep.RegionWith
namespace Go.Proofs.Qxb6600422a
open Go.RowKit
set_option linter.unusedVariables false
set_option linter.unusedSimpArgs false
attribute [local go_sem ↓] Go.wp_at_zero Go.wp_at_succ

/-- A match that is nil, or says the same in every world that keeps it. -/
def MOk (N : Nat) (W0 : World) (v : Int) (pm : Option Addr) : Prop :=
  pm = none ∨ ∃ b mb, pm = some ⟨b, 0, none⟩ ∧ ∀ W, Below N W0 W → Calls Try.prog 35 #[.pointer (some ⟨b, 0, none⟩), .int .u64 v] W fun e w' => e = .returned (.bool mb) ∧ w' = W

theorem holds_nn (v : Int) (W : World) : Calls Try.prog 30 #[.agg #[.pointer none, .pointer none], .int .u64 v] W fun e w' => e = .returned (.bool true) ∧ Below W.heap.size W w' := by
  go_enter Try.func30, Try.ntmps30
  go_wp2_with fail
  go_ret
  exact ⟨rfl, (Below.refl _ _).alloc (Nat.le_refl _) _⟩
theorem holds_ns (v : Int) (b2 : Nat) (m2 : Bool) (W : World) (h2 : Hid (∀ o, Calls Try.prog 35 #[.pointer (some ⟨b2, 0, none⟩), .int .u64 v] (W.alloc o) fun e w' => e = .returned (.bool m2) ∧ w' = W.alloc o)) : Calls Try.prog 30 #[.agg #[.pointer none, .pointer (some ⟨b2, 0, none⟩)], .int .u64 v] W fun e w' => e = .returned (.bool (!m2)) ∧ Below W.heap.size W w' := by
  go_enter Try.func30, Try.ntmps30
  go_wp2_with (first | (go_at_call 35; refine (h2.out _).mono ?_; rintro e w9 ⟨rfl, rfl⟩))
  go_ret
  exact ⟨rfl, (Below.refl _ _).alloc (Nat.le_refl _) _⟩
theorem holds_sn (v : Int) (b1 : Nat) (m1 : Bool) (W : World) (h1 : Hid (∀ o, Calls Try.prog 35 #[.pointer (some ⟨b1, 0, none⟩), .int .u64 v] (W.alloc o) fun e w' => e = .returned (.bool m1) ∧ w' = W.alloc o)) : Calls Try.prog 30 #[.agg #[.pointer (some ⟨b1, 0, none⟩), .pointer none], .int .u64 v] W fun e w' => e = .returned (.bool m1) ∧ Below W.heap.size W w' := by
  cases m1
  all_goals
    go_enter Try.func30, Try.ntmps30
    go_wp2_with (first | (go_at_call 35; refine (h1.out _).mono ?_; rintro e w9 ⟨rfl, rfl⟩))
    go_ret
    exact ⟨rfl, (Below.refl _ _).alloc (Nat.le_refl _) _⟩
theorem holds_ss (v : Int) (b1 b2 : Nat) (m1 m2 : Bool) (W : World) (h1 : Hid (∀ o, Calls Try.prog 35 #[.pointer (some ⟨b1, 0, none⟩), .int .u64 v] (W.alloc o) fun e w' => e = .returned (.bool m1) ∧ w' = W.alloc o)) (h2 : Hid (∀ o, Calls Try.prog 35 #[.pointer (some ⟨b2, 0, none⟩), .int .u64 v] (W.alloc o) fun e w' => e = .returned (.bool m2) ∧ w' = W.alloc o)) : Calls Try.prog 30 #[.agg #[.pointer (some ⟨b1, 0, none⟩), .pointer (some ⟨b2, 0, none⟩)], .int .u64 v] W fun e w' => e = .returned (.bool (m1 && !m2)) ∧ Below W.heap.size W w' := by
  cases m1
  · go_enter Try.func30, Try.ntmps30
    go_wp2_with (first | (go_at_call 35; refine (h1.out _).mono ?_; rintro e w9 ⟨rfl, rfl⟩))
    go_ret
    exact ⟨rfl, (Below.refl _ _).alloc (Nat.le_refl _) _⟩
  · go_enter Try.func30, Try.ntmps30
    go_wp2_with (first
      | (go_at_call_of 35 (Value.pointer (some ⟨b1, 0, none⟩)); refine (h1.out _).mono ?_; rintro e w9 ⟨rfl, rfl⟩)
      | (go_at_call_of 35 (Value.pointer (some ⟨b2, 0, none⟩)); refine (h2.out _).mono ?_; rintro e w8 ⟨rfl, rfl⟩))
    go_ret
    exact ⟨rfl, (Below.refl _ _).alloc (Nat.le_refl _) _⟩

/-- Holds. -/
theorem holds_ex (N : Nat) (W0 : World) (v : Int) (p1 p2 : Option Addr) (h1 : MOk N W0 v p1) (h2 : MOk N W0 v p2) :
    ∃ hb, ∀ W, Below N W0 W → N ≤ W.heap.size → Calls Try.prog 30 #[.agg #[.pointer p1, .pointer p2], .int .u64 v] W fun e w' => e = .returned (.bool hb) ∧ Below W.heap.size W w' := by
  rcases h1 with rfl | ⟨b1, m1, rfl, h1⟩
  · rcases h2 with rfl | ⟨b2, m2, rfl, h2⟩
    · exact ⟨true, fun W hB hN => holds_nn v W⟩
    · exact ⟨!m2, fun W hB hN => holds_ns v b2 m2 W (fun o => h2 (W.alloc o) (hB.alloc hN _))⟩
  · rcases h2 with rfl | ⟨b2, m2, rfl, h2⟩
    · exact ⟨m1, fun W hB hN => holds_sn v b1 m1 W (fun o => h1 (W.alloc o) (hB.alloc hN _))⟩
    · exact ⟨m1 && !m2, fun W hB hN => holds_ss v b1 b2 m1 m2 W (fun o => h1 (W.alloc o) (hB.alloc hN _)) (fun o => h2 (W.alloc o) (hB.alloc hN _))⟩

end Go.Proofs.Qxb6600422a
