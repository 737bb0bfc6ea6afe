import Derived.Test.Qxb6001038aH1
import Derived.BigQuiet
namespace Go.Proofs.Qxb6001038a
open Go.RowKit
set_option linter.unusedVariables false
set_option linter.unusedSimpArgs false
attribute [local go_sem ↓] Go.wp_at_zero Go.wp_at_succ

set_option maxHeartbeats 2000000 in
/-- sameInts of two rows that read alike. -/
theorem same_any (base ga gb la ca cb : Nat) (f : Nat → Int) (w : World) (ha : ∀ k, k < la → w.cell? ⟨ga, k, none⟩ = some (.int .i64 (f k))) (hb : ∀ k, k < la → w.cell? ⟨gb, k, none⟩ = some (.int .i64 (f k))) (hl : la < 100000) :
    Calls Try.prog 22 #[.slice (some ⟨ga, 0, none⟩) la ca, .slice (some ⟨gb, 0, none⟩) la cb] w fun e w' => e = .returned (.bool true) ∧ Below w.heap.size w w' ∧ w'.heap = w.heap := by
  have hne : ((la : Int) != (la : Int)) = false := by simp
  have haH := hide ha; have hbH := hide hb
  clear ha hb
  go_enter Try.func22, Try.ntmps22
  go_wp2_with fail
  go_loopw [5] (fun j wr => ∃ k : Nat, k ≤ la ∧ j = .int .i64 k ∧ Hid (Below w.heap.size w wr ∧ wr.heap = w.heap)) (fun j _ => la - (intOf j).toNat)
  case atStart => exact ⟨0, by omega, rfl, hide ⟨Below.refl _ _, rfl⟩⟩
  case round =>
    obtain ⟨k, hk, rfl, hI⟩ := hrel
    by_cases hlt : k < la
    · have c1 : wr.cell? ⟨ga, k, none⟩ = some (.int .i64 (f k)) := (World.cell?_of_block (a := ⟨ga, k, none⟩) (by rw [hI.out.2])).trans (haH.out k hlt)
      have c2 : wr.cell? ⟨gb, k, none⟩ = some (.int .i64 (f k)) := (World.cell?_of_block (a := ⟨gb, k, none⟩) (by rw [hI.out.2])).trans (hbH.out k hlt)
      have hb1 : (k : Int) < (la : Int) := by omega
      obtain ⟨z, hz⟩ : ∃ z, z = f k := ⟨_, rfl⟩
      rw [← hz] at c1 c2
      have hzz : (z != z) = false := by simp
      clear hz
      go_upto_region 6 with fail
      go_quiet (fail)
      go_wp2_with fail
      go_roundw
      case rel => exact ⟨k + 1, by omega, by go_num, hide ⟨hI.out.1.trans ⟨rfl, rfl, rfl, Nat.le_refl _, fun _ _ => rfl⟩, hI.out.2⟩⟩
      case measure => simp [intOf]; omega
    · obtain rfl : k = la := by omega
      go_wp2
      go_ret
      exact ⟨rfl, hI.out.1, hI.out.2⟩

theorem row_cells {base g L c : Nat} {w : World} {S : List Nat} (h : w.ownsRow base 3 1 (.slice (some ⟨g, 0, none⟩) L c) L (encN S)) : ∀ k, k < L → w.cell? ⟨g, k, none⟩ = some (.int .i64 (S.getD k 0 : Nat)) := fun k hk => by
  have hl := h.1
  rw [encN_len, Nat.mul_one] at hl
  have := h.cells (g := g) rfl k (.int .i64 (S.getD k 0 : Nat)) (by simp [encN, List.getD, show k < S.length by omega])
  rwa [Addr.add_lit, Nat.zero_add] at this

/-- ZZWritable. -/
theorem writable21 (base n o : Nat) (r : Nd) (σ : Nat → Option Nd) (w : World) (h : Rep base w σ) (hr : σ n = some r) (ho : w.heap[o]? = some (.cells #[.int .u8 0] 47 (0, 0)))
    (hes : 0 < r.es.length) (hen : r.es.length < 1000000) (hcn : r.cs.length < 1000000) (hbase : base ≤ w.heap.size) :
    Calls Try.prog 21 #[.pointer (some ⟨o, 0, none⟩), .pointer (some ⟨n, 0, none⟩)] w fun e w' =>
      ∃ n', e = .returned (.pointer (some ⟨n', 0, none⟩)) ∧ w.grownBy w' none ∧ ((n' = n ∧ r.own = o) ∨ σ n' = none) ∧ Rep base w' (upd σ n' { r with own := o }) := by
  obtain ⟨ph, hp⟩ := h
  have hw := writable2 base n o r σ ph w hp hr ho hes hen hcn hbase
  have hwH := hide hw
  clear hw hp hr ho hes hen hcn
  go_enter Try.func21, Try.ntmps21
  go_wp2_with (go_at_call 37; refine hwH.out.mono ?_; rintro e w1 ⟨n', ph', rfl, hg, hor, hp', _⟩)
  go_ret
  exact ⟨n', rfl, hg, hor, _, hp'⟩

theorem bytes19 (a : Option Addr) (len cap : Nat) (x y z : Int) (w : World) (hl : len ≤ 9223372036854775807) :
    Calls Try.prog 19 #[.slice a len cap, .int .i64 x, .int .i64 y, .int .i64 z] w fun e w' => e = .returned (.bool (decide (len ≤ 1048576))) ∧ w' = w := by
  by_cases h : len ≤ 1048576
  · have h1 : ¬ ((1048576 : Int) < (len : Int)) := by omega
    go_enter Try.func19, Try.ntmps19
    go_wp2
    go_ret
    exact ⟨rfl, rfl⟩
  · have h1 : ((1048576 : Int) < (len : Int)) := by omega
    go_enter Try.func19, Try.ntmps19
    go_wp2
    go_ret
    exact ⟨by rw [decide_eq_false h]; rfl, rfl⟩

end Go.Proofs.Qxb6001038a
