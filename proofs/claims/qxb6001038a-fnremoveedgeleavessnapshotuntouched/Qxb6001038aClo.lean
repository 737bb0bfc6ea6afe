import Derived.Test.Qxb6001038aDec
import Derived.Lib.SliceRun
namespace Go.Proofs.Qxb6001038a
open Go.RowKit
set_option linter.unusedVariables false

theorem cloneE_nil (w : World) : Calls Try.prog 40 #[.slice none 0 0] w fun e w' => e = .returned (.slice none 0 0) ∧ w' = w := by
  have q := fun (w : World) (a : Option Addr) (n c : Nat) => Lib.run_eql_slice_nil (P := Try.prog) w 61 75 a n c 0 0 Try.underlying61
  go_enter Try.func40, Try.ntmps40
  go_wp2
  go_ret
  exact ⟨rfl, rfl⟩

set_option maxHeartbeats 1000000 in
theorem cloneE (a : Addr) (n c base : Nat) (xs : List Value) (w : World) (hl : xs.length = n * 4) (hx : ∀ j u, xs[j]? = some u → w.cell? (a.add j) = some u) (h1 : ∀ u ∈ xs, u.oneCell' = true)
    (h0 : 0 < n) (hn : n < 1000000) (hbase : base ≤ w.heap.size) :
    Calls Try.prog 40 #[.slice (some a) n c] w fun e w' =>
      ∃ g cap, e = .returned (.slice (some ⟨g, 0, none⟩) n cap) ∧ w'.ownsRow base 75 4 (.slice (some ⟨g, 0, none⟩) n cap) n xs ∧ w.grownBy w' none ∧ w.heap.size ≤ g ∧ g < w'.heap.size := by
  obtain ⟨i0, hi0, hz0, hz1, hz2⟩ := info_parts infoEn
  have hlt : ∀ j u, xs[j]? = some u → (w.alloc (.cells #[] 75)).cell? (a.add j) = some u := fun j u hj => (World.grownBy_alloc w (.cells #[] 75) none).cell (hx j u hj) (by simp)
  have hown : (w.alloc (.cells #[] 75)).ownsRow base 75 4 (.slice (some ⟨w.heap.size, 0, none⟩) 0 0) 0 [] := World.ownsRow_made w #[] 0 hbase (by unfold maxLen; omega) (by simp)
  have hxH := hide hlt; have h1H := hide h1; have hoH := hide hown
  clear hlt h1 hown hx
  have q := fun (w : World) (a : Option Addr) (n c : Nat) => Lib.run_eql_slice_nil (P := Try.prog) w 61 75 a n c 0 0 Try.underlying61
  go_enter Try.func40, Try.ntmps40
  go_wp2_with (at_builtin; refine wpList_append_lies _ rfl _ _ 61 rfl base 75 i0 zEn 4 56 Try.underlying61 hi0 hz0 hz1 hz2 rfl (by omega) (.slice (some ⟨w.heap.size, 0, none⟩) 0 0) 0 [] rfl hoH.out a n c xs rfl (by omega) hxH.out h1H.out (by omega) (by unfold maxLen; omega) (by omega) (by simp; omega) (w.heap.size + 1) (by simp) ?_; intro g cap w1 hown1 hgrow hat hlt)
  go_ret
  simp only [Nat.zero_add, List.nil_append] at hown1
  refine ⟨g, cap, by simp, hown1, ?_, ?_, hlt⟩
  · refine ⟨hgrow.os, hgrow.tape, hgrow.output, by have := hgrow.size; simp at this; omega, fun k hk _ => ?_⟩
    rw [hgrow.block k (by simp; omega) (by simp [Value.ownBlock]; omega)]
    exact Below.heap_alloc w _ k hk
  · rcases hat with h | h
    · simp [Value.ownBlock] at h; omega
    · omega

theorem cloneC_nil (w : World) : Calls Try.prog 42 #[.slice none 0 0] w fun e w' => e = .returned (.slice none 0 0) ∧ w' = w := by
  have q := fun (w : World) (a : Option Addr) (n c : Nat) => Lib.run_eql_slice_nil (P := Try.prog) w 62 29 a n c 0 0 Try.underlying62
  go_enter Try.func42, Try.ntmps42
  go_wp2
  go_ret
  exact ⟨rfl, rfl⟩

set_option maxHeartbeats 1000000 in
theorem cloneC (a : Addr) (n c base : Nat) (xs : List Value) (w : World) (hl : xs.length = n * 1) (hx : ∀ j u, xs[j]? = some u → w.cell? (a.add j) = some u) (h1 : ∀ u ∈ xs, u.oneCell' = true)
    (h0 : 0 < n) (hn : n < 1000000) (hbase : base ≤ w.heap.size) :
    Calls Try.prog 42 #[.slice (some a) n c] w fun e w' =>
      ∃ g cap, e = .returned (.slice (some ⟨g, 0, none⟩) n cap) ∧ w'.ownsRow base 29 1 (.slice (some ⟨g, 0, none⟩) n cap) n xs ∧ w.grownBy w' none ∧ w.heap.size ≤ g ∧ g < w'.heap.size := by
  obtain ⟨i0, hi0, hz0, hz1, hz2⟩ := info_parts infoCh
  have hlt : ∀ j u, xs[j]? = some u → (w.alloc (.cells #[] 29)).cell? (a.add j) = some u := fun j u hj => (World.grownBy_alloc w (.cells #[] 29) none).cell (hx j u hj) (by simp)
  have hown : (w.alloc (.cells #[] 29)).ownsRow base 29 1 (.slice (some ⟨w.heap.size, 0, none⟩) 0 0) 0 [] := World.ownsRow_made w #[] 0 hbase (by unfold maxLen; omega) (by simp)
  have hxH := hide hlt; have h1H := hide h1; have hoH := hide hown
  clear hlt h1 hown hx
  have q := fun (w : World) (a : Option Addr) (n c : Nat) => Lib.run_eql_slice_nil (P := Try.prog) w 62 29 a n c 0 0 Try.underlying62
  go_enter Try.func42, Try.ntmps42
  go_wp2_with (at_builtin; refine wpList_append_lies _ rfl _ _ 62 rfl base 29 i0 (.pointer none) 1 8 Try.underlying62 hi0 hz0 hz1 hz2 rfl (by omega) (.slice (some ⟨w.heap.size, 0, none⟩) 0 0) 0 [] rfl hoH.out a n c xs rfl (by omega) hxH.out h1H.out (by omega) (by unfold maxLen; omega) (by omega) (by simp; omega) (w.heap.size + 1) (by simp) ?_; intro g cap w1 hown1 hgrow hat hlt)
  go_ret
  simp only [Nat.zero_add, List.nil_append] at hown1
  refine ⟨g, cap, by simp, hown1, ?_, ?_, hlt⟩
  · refine ⟨hgrow.os, hgrow.tape, hgrow.output, by have := hgrow.size; simp at this; omega, fun k hk _ => ?_⟩
    rw [hgrow.block k (by simp; omega) (by simp [Value.ownBlock]; omega)]
    exact Below.heap_alloc w _ k hk
  · rcases hat with h | h
    · simp [Value.ownBlock] at h; omega
    · omega

end Go.Proofs.Qxb6001038a
