import Derived.Test.Qxb6600422aRows
import Derived.WalkKit
import Derived.ProofKit
import Derived.Handy
import Derived.Deep.DrawnRows
import Derived.Deep.Cut
import Derived.Deep.OwnRows
import Derived.BigQuiet
import Derived.Laws.Rows
import Derived.Laws.ResultCell
import Derived.Lib.SliceRun
namespace Go.Proofs.Qxb6600422a
open Go.RowKit
set_option linter.unusedVariables false
set_option linter.unusedSimpArgs false
attribute [local go_sem ↓] Go.wp_at_zero Go.wp_at_succ

theorem hide {p : Prop} (h : p) : Hid p := h
theorem lt_of_heap {w : World} {b : Nat} {o : Obj} (h : w.heap[b]? = some o) : b < w.heap.size := (Array.getElem?_eq_some_iff.1 h).1

/-- A slice of numbers that lies below N. -/
def IsU (N : Nat) (w : World) (p : Option Addr) (len cap : Nat) (V : Nat → Int) : Prop :=
  (p = none ∧ len = 0 ∧ cap = 0) ∨ ∃ x : Addr, p = some x ∧ (0 < len → x.block < N) ∧ ∀ i, i < len → w.cell? (x.add i) = some (.int .u64 (V i))
theorem IsU.keep {N : Nat} {w w' : World} {p : Option Addr} {len cap : Nat} {V : Nat → Int} (h : IsU N w p len cap V) (hB : Below N w w') : IsU N w' p len cap V := by
  rcases h with h | ⟨x, h1, h2, h3⟩
  · exact .inl h
  · refine .inr ⟨x, h1, h2, fun i hi => ?_⟩
    have hb : (x.add i).block = x.block := by unfold Addr.add; split <;> rfl
    rw [hB.cell (by rw [hb]; exact h2 (by omega))]
    exact h3 i hi

theorem least (P : Nat → Prop) : ∀ m, (∃ k, k ≤ m ∧ P k) → ∃ k, k ≤ m ∧ P k ∧ ∀ j, j < k → ¬ P j := by
  intro m
  induction m with
  | zero => rintro ⟨k, hk, hp⟩; exact ⟨k, hk, hp, fun j hj => by omega⟩
  | succ m ih =>
    rintro ⟨k, hk, hp⟩
    by_cases h : ∃ k, k ≤ m ∧ P k
    · obtain ⟨k', h1, h2, h3⟩ := ih h
      exact ⟨k', by omega, h2, h3⟩
    · exact ⟨k, hk, hp, fun j hj hpj => h ⟨j, by omega, hpj⟩⟩

theorem idx_nil (v : Int) (w : World) : Calls Try.prog 40 #[.slice none 0 0, .int .u64 v] w fun e w' => e = .returned (.int .i64 (-1)) ∧ w' = w := by
  go_enter Try.func40, Try.ntmps40
  go_wp2_with fail
  refine wp_loop_rounds 1 ?_
  rw [rounds_succ]
  go_wp2_with fail
  go_ret
  exact ⟨rfl, rfl⟩

set_option maxHeartbeats 1000000 in
theorem idx_row (x : Addr) (len cap t : Nat) (V : Nat → Int) (v : Int) (w : World) (hl : len ≤ 9223372036854775807) (hc : ∀ i, i < len → w.cell? (x.add i) = some (.int .u64 (V i))) (ht : t ≤ len) (hno : ∀ j, j < t → V j ≠ v) (hat : t < len → V t = v) :
    Calls Try.prog 40 #[.slice (some x) len cap, .int .u64 v] w fun e w' => e = .returned (.int .i64 (if t < len then (t : Int) else -1)) ∧ w' = w := by
  have hcH := hide hc; have hnoH := hide hno; have hatH := hide hat
  clear hc hno hat
  go_enter Try.func40, Try.ntmps40
  go_wp2_with fail
  go_loopw [8] (fun j wr => ∃ k : Nat, k ≤ t ∧ j = .int .i64 k ∧ wr = w) (fun j _ => len - (intOf j).toNat)
  case atStart => exact ⟨0, by omega, rfl, rfl⟩
  case round =>
    obtain ⟨k, hk, rfl, rfl⟩ := hrel
    by_cases hlt : k < len
    · have c := hcH.out k hlt
      have hlt' : (k : Int) < (len : Int) := by omega
      by_cases hkt : k < t
      · have hne : (v == V k) = false := by
          have := hnoH.out k hkt
          rw [beq_eq_false_iff_ne]
          exact fun e => this e.symm
        go_wp2_with fail
        go_roundw
        case rel => exact ⟨k + 1, by omega, by go_num, by first | rfl | trivial⟩
        case measure => simp [intOf]; omega
      · obtain rfl : k = t := by omega
        have heq : (v == V k) = true := by rw [hatH.out hlt]; simp
        go_wp2_with fail
        go_ret
        first | exact ⟨rfl, rfl⟩ | exact ⟨by rw [if_pos hlt]; rfl, rfl⟩
    · obtain rfl : k = len := by omega
      have hnl : ¬ ((k : Int) < (k : Int)) := by omega
      go_wp2_with fail
      go_ret
      first | exact ⟨rfl, rfl⟩ | exact ⟨by rw [if_neg (by omega)]; rfl, rfl⟩

/-- slices.Contains says the same in every world that keeps the row. -/
theorem contains_ex (N : Nat) (W0 : World) (p : Option Addr) (len cap : Nat) (V : Nat → Int) (v : Int) (hl : len ≤ 9223372036854775807) (h : IsU N W0 p len cap V) :
    ∃ b, ∀ W, Below N W0 W → Calls Try.prog 39 #[.slice p len cap, .int .u64 v] W fun e w' => e = .returned (.bool b) ∧ w' = W := by
  obtain ⟨r, hr⟩ : ∃ r : Int, ∀ W, Below N W0 W → Calls Try.prog 40 #[.slice p len cap, .int .u64 v] W fun e w' => e = .returned (.int .i64 r) ∧ w' = W := by
    rcases h with ⟨rfl, rfl, rfl⟩ | ⟨x, rfl, h2, h3⟩
    · exact ⟨-1, fun W _ => idx_nil v W⟩
    · have hk : ∀ W, Below N W0 W → ∀ i, i < len → W.cell? (x.add i) = some (.int .u64 (V i)) := fun W hB i hi => by
        have hb : (x.add i).block = x.block := by unfold Addr.add; split <;> rfl
        rw [hB.cell (by rw [hb]; exact h2 (by omega))]
        exact h3 i hi
      by_cases he : ∃ k, k ≤ len ∧ (k < len ∧ V k = v)
      · obtain ⟨t, h4, ⟨h5, h6⟩, h7⟩ := least (fun k => k < len ∧ V k = v) len he
        exact ⟨_, fun W hB => idx_row x len cap t V v W hl (hk W hB) h4 (fun j hj e => h7 j hj ⟨by omega, e⟩) (fun _ => h6)⟩
      · exact ⟨_, fun W hB => idx_row x len cap len V v W hl (hk W hB) (Nat.le_refl _) (fun j hj e => he ⟨j, by omega, hj, e⟩) (fun h => by omega)⟩
  refine ⟨decide (0 ≤ r), fun W hB => ?_⟩
  have hrH := hide (hr W hB)
  clear hr
  go_enter Try.func39, Try.ntmps39
  go_wp2_with (go_at_call 40; refine hrH.out.mono ?_; rintro e W ⟨rfl, rfl⟩)
  go_ret
  exact ⟨rfl, rfl⟩

/-- Matches. -/
theorem match_ex (N : Nat) (W0 : World) (b : Nat) (any : Bool) (p : Option Addr) (len cap : Nat) (V : Nat → Int) (v : Int) (hb : W0.heap[b]? = some (.cells #[.bool any, .slice p len cap] 54 (0, 0))) (hbN : b < N) (hl : len ≤ 9223372036854775807) (h : IsU N W0 p len cap V) :
    ∃ mb, ∀ W, Below N W0 W → Calls Try.prog 35 #[.pointer (some ⟨b, 0, none⟩), .int .u64 v] W fun e w' => e = .returned (.bool mb) ∧ w' = W := by
  obtain ⟨cb, hcb⟩ := contains_ex N W0 p len cap V v hl h
  have hcell : ∀ W, Below N W0 W → W.cell? ⟨b, 0, none⟩ = some (.bool any) ∧ W.cell? ⟨b, 1, none⟩ = some (.slice p len cap) := fun W hB => by
    have h1 : W.heap[b]? = some (.cells #[.bool any, .slice p len cap] 54 (0, 0)) := by rw [hB.block b hbN]; exact hb
    exact ⟨by rw [cell_of_row W b 0 _ 54 _ h1]; rfl, by rw [cell_of_row W b 1 _ 54 _ h1]; rfl⟩
  clear hb h
  by_cases hv : v = 0
  · refine ⟨false, fun W hB => ?_⟩
    have h0 : (v != 0) = false := by rw [hv]; rfl
    clear hcb hcell hv
    go_enter Try.func35, Try.ntmps35
    go_wp2_with fail
    go_ret
    exact ⟨rfl, rfl⟩
  · have h0 : (v != 0) = true := by rw [bne_iff_ne]; exact hv
    cases any
    · refine ⟨cb, fun W hB => ?_⟩
      obtain ⟨c0, c1⟩ := hcell W hB
      have hcH := hide (hcb W hB)
      clear hcb hcell hv
      go_enter Try.func35, Try.ntmps35
      go_wp2_with (first | (go_at_call 39; refine hcH.out.mono ?_; rintro e W ⟨rfl, rfl⟩))
      go_ret
      exact ⟨rfl, rfl⟩
    · refine ⟨true, fun W hB => ?_⟩
      obtain ⟨c0, c1⟩ := hcell W hB
      clear hcb hcell hv
      go_enter Try.func35, Try.ntmps35
      go_wp2_with fail
      go_ret
      exact ⟨rfl, rfl⟩

end Go.Proofs.Qxb6600422a
