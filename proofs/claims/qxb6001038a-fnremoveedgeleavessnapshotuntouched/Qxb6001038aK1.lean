import Derived.Test.Qxb6001038aW2
import Derived.Test.Qxb6001038aTr2
namespace Go.Proofs.Qxb6001038a
open Go.RowKit
set_option linter.unusedVariables false
set_option linter.unusedSimpArgs false
attribute [local go_sem ↓] Go.wp_at_zero Go.wp_at_succ

set_option maxHeartbeats 4000000 in
set_option maxRecDepth 100000 in
theorem check_core (base n lo hi h L : Nat) (hiZ : Int) (w : World) (hbase : base ≤ w.heap.size) (hhi : hi = lo + L) (hh1 : hi < 1000000) (hZ : hiZ = hi)
    (hwalk : ∀ W, W = w.alloc (.cells #[.slice none 0 0, .slice none 0 0, .int .i64 (-1), .bool true] 57) → Calls Try.prog 32 #[.pointer (some ⟨w.heap.size, 0, none⟩), .pointer (some ⟨n, 0, none⟩), .bool true, .int .i64 0] W fun e w' => e = .returned (.tuple #[]) ∧ MutW base W w' ∧
      ∃ vk' vi', Wk base w' w.heap.size vk' vi' (List.range' lo L) (List.range' lo L) (h : Int)) :
    Calls Try.prog 13 #[.pointer (some ⟨n, 0, none⟩), .int .i64 lo, .int .i64 hiZ, .int .i64 h] w fun e w' => e = .returned (.bool true) ∧ MutW base w w' := by
  have hwH := hide hwalk
  clear hwalk
  subst hhi
  rw [Int.natCast_add] at hZ
  subst hZ
  go_enter Try.func13, Try.ntmps13
  go_upto_region 3 with (go_at_call 32; refine (hwH.out _ rfl).mono ?_; rintro e w1 ⟨rfl, hM1, vk, vi, hW1⟩)
  have hM0 : MutW base w (w.alloc (.cells #[.slice none 0 0, .slice none 0 0, .int .i64 (-1), .bool true] 57)) := ⟨(Below.refl _ _).alloc hbase _, fun b c t fz hc _ _ _ => by rw [Below.heap_alloc w _ b (lt_of_heap hc)]; exact hc⟩
  have hM2 := hM0.trans hM1
  generalize hwb : w.heap.size = wb at hW1 ⊢
  clear hM0 hM1 hwH
  obtain ⟨pk, ck, hvk, hk1, hk2⟩ := ownsRow_shape hW1.keys
  obtain ⟨pi, ci, hvi, hi1, hi2⟩ := ownsRow_shape hW1.idx
  have q0 := hW1.c0; have q1 := hW1.c1; have q2 := hW1.c2; have q3 := hW1.c3
  have hrl : (List.range' lo L).length = L := by simp
  rw [hrl] at hvk hvi hk1 hi1
  rw [hvk] at q0
  rw [hvi] at q1
  have hWH := hide hW1; have hMH := hide hM2; have hvkH := hide hvk; have hviH := hide hvi
  have hne : ((h : Int) != (h : Int)) = false := by simp
  have hsub : ((L : Int) != (lo : Int) + (L : Int) - (lo : Int)) = false := by rw [show (lo : Int) + (L : Int) - (lo : Int) = L by omega]; simp
  clear hW1 hM2 hvk hvi hrl hwb
  go_wp2
  go_loopw [10] (fun j wr => ∃ k : Nat, k ≤ L ∧ j = .int .i64 k ∧ Hid (Below w1.heap.size w1 wr)) (fun j _ => L - (intOf j).toNat)
  case atStart => exact ⟨0, by omega, rfl, Below.refl _ _⟩
  case round =>
    obtain ⟨k, hk, rfl, hI⟩ := hrel
    by_cases hlt : k < L
    · have hW1 := hWH.out
      obtain ⟨gk, ck2, e1, x1, x2, hgk⟩ := ownsRow_pos hW1.keys (by simp; omega)
      obtain ⟨gi, ci2, e2, x3, x4, hgi⟩ := ownsRow_pos hW1.idx (by simp; omega)
      have kc := hW1.keys.cells (g := gk) (by rw [e1]; rfl) k (.string (p6 ((lo : Int) + (k : Int)))) (by
        simp only [encK, List.getElem?_map]
        rw [List.getElem?_range' (by omega)]
        simp)
      have ic := hW1.idx.cells (g := gi) (by rw [e2]; rfl) k (.int .u64 ((lo : Int) + (k : Int))) (by
        simp only [encI, List.getElem?_map]
        rw [List.getElem?_range' (by omega)]
        simp)
      rw [Addr.add_lit, Nat.zero_add] at kc ic
      rw [hvkH.out] at e1
      rw [hviH.out] at e2
      simp only [Value.slice.injEq] at e1 e2
      obtain ⟨rfl, x5, rfl⟩ := e1
      obtain ⟨rfl, x6, rfl⟩ := e2
      clear x1 x2 x3 x4 x5 x6
      have hB := hI.out
      have hwbl := lt_of_heap hW1.blk
      have q0' := (hB.cell (p := ⟨wb, 0, none⟩) hwbl).trans q0
      have q1' := (hB.cell (p := ⟨wb, 1, none⟩) hwbl).trans q1
      have kc' := (hB.cell (p := ⟨gk, k, none⟩) hgk).trans kc
      have ic' := (hB.cell (p := ⟨gi, k, none⟩) hgi).trans ic
      have hw1 : IntKind.i64.wrap ((lo : Int) + (k : Int)) = (lo : Int) + (k : Int) := by rw [IntKind.wrap_i64]; omega
      have hw2 : IntKind.u64.wrap ((lo : Int) + (k : Int)) = (lo : Int) + (k : Int) := by rw [IntKind.wrap_u64]; omega
      have hb1 : (k : Int) < (L : Int) := by omega
      have hb2 : (0 : Int) ≤ (k : Int) := by omega
      have hsz := hB.size
      have hBH := hide hB
      clear hW1 kc ic q0 q1 hB hI
      obtain ⟨st, hst⟩ : ∃ st, st = p6 ((lo : Int) + (k : Int)) := ⟨_, rfl⟩
      have hcallH : Hid (∀ W, Calls Try.prog 33 #[.int .i64 ((lo : Int) + (k : Int))] W fun e w' => e = .returned (.string st) ∧ Below W.heap.size W w') := by
        unfold Hid; intro W; rw [hst]; exact pad6_any _ W (by omega) (by omega)
      rw [← hst] at kc'
      clear hst
      go_upto_region 10 with fail
      clear hne q2 q3
      go_region_held3 (fun w' => w'.cell? ⟨wb, 0, none⟩ = some (.slice (some ⟨gk, 0, none⟩) (L) ck) ∧ w'.cell? ⟨wb, 1, none⟩ = some (.slice (some ⟨gi, 0, none⟩) (L) ci) ∧ w'.cell? ⟨gk, k, none⟩ = some (.string st) ∧ w'.cell? ⟨gi, k, none⟩ = some (.int .u64 ((lo : Int) + (k : Int))))
        (first | go_keep | exact ⟨(hb8.cell (p := ⟨wb, 0, none⟩) (by show wb < wr.heap.size; omega)).trans q0', (hb8.cell (p := ⟨wb, 1, none⟩) (by show wb < wr.heap.size; omega)).trans q1', (hb8.cell (p := ⟨gk, k, none⟩) (by show gk < wr.heap.size; omega)).trans kc', (hb8.cell (p := ⟨gi, k, none⟩) (by show gi < wr.heap.size; omega)).trans ic'⟩)
        (first | (go_at_call 33; refine (hcallH.out _).mono ?_; rintro e w8 ⟨rfl, hb8⟩))
      all_goals go_wp2
      go_roundw
      case rel =>
        refine ⟨k + 1, by omega, by go_num, ?_⟩
        exact hBH.out.trans ⟨hb8.os, hb8.tape, hb8.output, hb8.size, fun j hj => hb8.block j (by show j < wr.heap.size; omega)⟩
      case measure => simp [intOf]; omega
    · obtain rfl : k = L := by omega
      go_wp2
      go_ret
      have hB := hI.out
      refine ⟨rfl, hMH.out.trans ⟨hB.mono (Nat.le_trans hbase hMH.out.below.size), fun b c t fz hc _ _ _ => ?_⟩⟩
      rw [hB.block b (lt_of_heap hc)]
      exact hc

end Go.Proofs.Qxb6001038a
