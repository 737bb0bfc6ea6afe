import Derived.Test.Qxb6600422aS2
namespace Go.Proofs.Qxb6600422a
open Go.RowKit
set_option linter.unusedVariables false
set_option linter.unusedSimpArgs false
attribute [local go_sem ↓] Go.wp_at_zero Go.wp_at_succ

theorem info22 : (Try.prog.info? 22).map (fun i => (i.zero, i.size, i.bytes)) = some (some (.int .u64 0), 1, 8) := by kernel_rfl

theorem clone_n (w : World) : Calls Try.prog 26 #[.slice none 0 0] w fun e w' => e = .returned (.slice none 0 0) ∧ w' = w := by
  have q := fun (w : World) (a : Option Addr) (n c : Nat) => Lib.run_eql_slice_nil (P := Try.prog) w 25 22 a n c 0 0 Try.underlying25
  go_enter Try.func26, Try.ntmps26
  go_wp2_with fail
  go_ret
  exact ⟨rfl, rfl⟩

set_option maxHeartbeats 1000000 in
theorem clone_r (x : Addr) (len cap : Nat) (V : Nat → Int) (w : World) (hl : len ≤ 1000000) (hc : ∀ i, i < len → w.cell? (x.add i) = some (.int .u64 (V i))) :
    Calls Try.prog 26 #[.slice (some x) len cap] w fun e w' => e = .returned (.slice (some ⟨w.heap.size, 0, none⟩) len len) ∧ Below w.heap.size w w' ∧ w'.rowIs w.heap.size 22 len (fun i => .int .u64 (V i)) := by
  have q := fun (w : World) (a : Option Addr) (n c : Nat) => Lib.run_eql_slice_nil (P := Try.prog) w 25 22 a n c 0 0 Try.underlying25
  have hmk := run_make_row' (P := Try.prog) 25 22 (.int .u64 0) 8 Try.underlying25 info22 rfl .i64 .i64 len (by omega) (by omega)
  have hxb : 0 < len → x.block < w.heap.size := fun h => by
    have := World.block_lt_of_cell? _ _ (hc 0 h)
    simpa [Addr.add] using this
  have hcH := hide hc; have hxH := hide hxb
  clear hc hxb
  go_enter Try.func26, Try.ntmps26
  go_wp2_with fail
  go_loopw [4] (fun j wr => ∃ k : Nat, k ≤ len ∧ j = .int .i64 k ∧ Hid (Below w.heap.size w wr ∧ wr.rowIs w.heap.size 22 len (fun i => if i < k then .int .u64 (V i) else .int .u64 0))) (fun j _ => len - (intOf j).toNat)
  case atStart => exact ⟨0, by omega, rfl, (Below.refl _ _).alloc (Nat.le_refl _) _, (World.rowIs_made w (.int .u64 0) len 22).congr (fun i hi => by simp)⟩
  case round =>
    obtain ⟨k, hk, rfl, hI⟩ := hrel
    by_cases hlt : k < len
    · obtain ⟨hB, hrow⟩ := hI.out
      clear hI
      obtain ⟨xb, xo, xs⟩ := x
      have hx := hcH.out k hlt
      have hxb := hxH.out (by omega)
      have hcx : wr.cell? ((⟨xb, xo, xs⟩ : Addr).add k) = some (.int .u64 (V k)) := by
        have hbk : ((⟨xb, xo, xs⟩ : Addr).add k).block = xb := by unfold Addr.add; split <;> rfl
        rw [Below.cell hB (by rw [hbk]; exact hxb)]; exact hx
      have hcy := hrow.cell hlt
      have hfy := hrow.frozen k
      have hbH := hide hB; have hrH := hide hrow
      clear hB hrow hx
      simp only [Nat.lt_irrefl, if_false] at hcy
      go_wp2
      go_roundw
      case rel =>
        refine ⟨k + 1, by omega, by go_num, hbH.out.setCell (Nat.le_refl _) _, (hrH.out.set k _).congr (fun i hi => ?_)⟩
        by_cases e : i = k
        · subst e; simp
        · by_cases e2 : i < k
          · rw [if_neg e, if_pos e2, if_pos (by omega)]
          · rw [if_neg e, if_neg e2, if_neg (by omega)]
      case measure => simp [intOf]; omega
    · obtain rfl : k = len := by omega
      go_wp2
      go_ret
      obtain ⟨hB, hrow⟩ := hI.out
      exact ⟨rfl, hB, hrow.congr (fun i hi => by simp [hi])⟩

/-- zzCloneU64. -/
theorem clone_any (N : Nat) (a : Option Addr) (len cap : Nat) (V : Nat → Int) (w : World) (h : IsU N w a len cap V) (hl : len ≤ 1000000) :
    Calls Try.prog 26 #[.slice a len cap] w fun e w' => ∃ p c, e = .returned (.slice p len c) ∧ Below w.heap.size w w' ∧ IsU w'.heap.size w' p len c V ∧ ∀ x, p = some x → w.heap.size ≤ x.block := by
  rcases h with ⟨rfl, rfl, rfl⟩ | ⟨x, rfl, h2, h3⟩
  · refine (clone_n w).mono ?_
    rintro e w' ⟨rfl, rfl⟩
    exact ⟨none, 0, rfl, Below.refl _ _, .inl ⟨rfl, rfl, rfl⟩, fun x e => by cases e⟩
  · refine (clone_r x len cap V w hl h3).mono ?_
    rintro e w' ⟨rfl, hB, hrow⟩
    obtain ⟨c, hc1, hc2, hc3⟩ := hrow
    refine ⟨_, len, rfl, hB, .inr ⟨_, rfl, fun _ => lt_of_heap hc1, fun i hi => ?_⟩, fun x e => by cases e; exact Nat.le_refl _⟩
    rw [Addr.add_lit, Nat.zero_add, cell_of_row w' _ i c 22 _ hc1]
    exact hc3 i hi

theorem IsU.move {N N' : Nat} {w w' : World} {p : Option Addr} {len cap : Nat} {V : Nat → Int} (h : IsU N w p len cap V) (hN : N ≤ N') (hk : ∀ x, p = some x → w'.heap[x.block]? = w.heap[x.block]?) : IsU N' w' p len cap V := by
  rcases h with h | ⟨x, h1, h2, h3⟩
  · exact .inl h
  · refine .inr ⟨x, h1, fun h => by have := h2 h; omega, fun i hi => ?_⟩
    have hb : (x.add i).block = x.block := by unfold Addr.add; split <;> rfl
    exact (World.cell?_of_block (w := w) (w' := w') (a := x.add i) (by rw [hb]; exact hk x h1)).trans (h3 i hi)
theorem set6 {W : World} {b : Nat} {x y z u v s x' y' z' u' v' s' : Value} (h : W.heap[b]? = some (.cells #[x, y, z, u, v, s] 27 (0, 0))) :
    ((((((W.setCell ⟨b, 0, none⟩ x').setCell ⟨b, 1, none⟩ y').setCell ⟨b, 2, none⟩ z').setCell ⟨b, 3, none⟩ u').setCell ⟨b, 4, none⟩ v').setCell ⟨b, 5, none⟩ s').heap[b]? = some (.cells #[x', y', z', u', v', s'] 27 (0, 0)) :=
  heap_setCell_same _ _ 5 _ 27 _ (heap_setCell_same _ _ 4 _ 27 _ (heap_setCell_same _ _ 3 _ 27 _ (heap_setCell_same _ _ 2 _ 27 _ (heap_setCell_same _ _ 1 _ 27 _ (heap_setCell_same W _ 0 _ 27 _ h)))))
theorem size27 : (Try.prog.info? 27).map (·.size) = some 6 := by kernel_rfl
theorem cells6 {W : World} {b : Nat} {t : TypeId} {x y z u v s : Value} (h : W.heap[b]? = some (.cells #[x, y, z, u, v, s] t (0, 0))) : W.cell? ⟨b, 0, none⟩ = some x ∧ W.cell? ⟨b, 1, none⟩ = some y ∧ W.cell? ⟨b, 2, none⟩ = some z ∧ W.cell? ⟨b, 3, none⟩ = some u ∧ W.cell? ⟨b, 4, none⟩ = some v ∧ W.cell? ⟨b, 5, none⟩ = some s ∧ ∀ i, W.frozen? ⟨b, i, none⟩ = false :=
  ⟨by rw [cell_of_row W b 0 _ t _ h]; rfl, by rw [cell_of_row W b 1 _ t _ h]; rfl, by rw [cell_of_row W b 2 _ t _ h]; rfl, by rw [cell_of_row W b 3 _ t _ h]; rfl, by rw [cell_of_row W b 4 _ t _ h]; rfl, by rw [cell_of_row W b 5 _ t _ h]; rfl, fun i => frozen_of_row W b i _ t h⟩

set_option maxHeartbeats 2000000 in
/-- zzCloneCond. -/
theorem cond13 (N : Nat) (h1 a1 h2 a2 : Bool) (p1 p2 : Option Addr) (l1 c1 l2 c2 : Nat) (V1 V2 : Nat → Int) (w : World) (hu1 : IsU N w p1 l1 c1 V1) (hu2 : IsU N w p2 l2 c2 V2) (hN : N ≤ w.heap.size) (hl1 : l1 ≤ 1000000) (hl2 : l2 ≤ 1000000) :
    Calls Try.prog 13 #[.agg #[.bool h1, .bool a1, .slice p1 l1 c1, .bool h2, .bool a2, .slice p2 l2 c2]] w fun e w' => ∃ q1 d1 q2 d2, e = .returned (.agg #[.bool h1, .bool a1, .slice q1 l1 d1, .bool h2, .bool a2, .slice q2 l2 d2]) ∧ Below w.heap.size w w' ∧ IsU w'.heap.size w' q1 l1 d1 V1 ∧ IsU w'.heap.size w' q2 l2 d2 V2 ∧ (∀ x, q1 = some x → w.heap.size ≤ x.block) ∧ ∀ x, q2 = some x → w.heap.size ≤ x.block := by
  obtain ⟨E2, hE2⟩ : ∃ E2, E2 = (w.alloc (.cells #[.bool h1, .bool a1, .slice p1 l1 c1, .bool h2, .bool a2, .slice p2 l2 c2] 27)).alloc (.cells #[.bool false, .bool false, .slice none 0 0, .bool false, .bool false, .slice none 0 0] 27) := ⟨_, rfl⟩
  have hB2 : Below w.heap.size w E2 := by rw [hE2]; exact ((Below.refl _ _).alloc (Nat.le_refl _) _).alloc (by simp) _
  have hs2 : E2.heap.size = w.heap.size + 2 := by rw [hE2]; simp
  have hb2 : E2.heap[w.heap.size]? = some (.cells #[.bool h1, .bool a1, .slice p1 l1 c1, .bool h2, .bool a2, .slice p2 l2 c2] 27 (0, 0)) := by rw [hE2]; exact heap_alloc2_old w _ _
  have hr2 : E2.heap[w.heap.size + 1]? = some (.cells #[.bool false, .bool false, .slice none 0 0, .bool false, .bool false, .slice none 0 0] 27 (0, 0)) := by rw [hE2]; exact heap_alloc2_new w _ _
  have hc1 := hide (clone_any N p1 l1 c1 V1 E2 (hu1.keep (hB2.mono hN)) hl1)
  have hk3 : Hid (∀ W3 q1 d1, Below E2.heap.size E2 W3 → (W3.heap[w.heap.size]? = some (.cells #[.bool h1, .bool a1, .slice p1 l1 c1, .bool h2, .bool a2, .slice p2 l2 c2] 27 (0, 0)) ∧
      (W3.setCell ⟨w.heap.size, 2, none⟩ (.slice q1 l1 d1)).heap[w.heap.size]? = some (.cells #[.bool h1, .bool a1, .slice q1 l1 d1, .bool h2, .bool a2, .slice p2 l2 c2] 27 (0, 0)) ∧ (W3.setCell ⟨w.heap.size, 2, none⟩ (.slice q1 l1 d1)).heap[w.heap.size + 1]? = some (.cells #[.bool false, .bool false, .slice none 0 0, .bool false, .bool false, .slice none 0 0] 27 (0, 0)) ∧ Below w.heap.size w (W3.setCell ⟨w.heap.size, 2, none⟩ (.slice q1 l1 d1)) ∧ w.heap.size + 2 ≤ W3.heap.size)) := fun W3 q1 d1 hB => by
    have g1 : W3.heap[w.heap.size]? = some (.cells #[.bool h1, .bool a1, .slice p1 l1 c1, .bool h2, .bool a2, .slice p2 l2 c2] 27 (0, 0)) := (hB.block _ (by omega)).trans hb2
    have g2 : W3.heap[w.heap.size + 1]? = _ := (hB.block _ (by omega)).trans hr2
    refine ⟨g1, heap_setCell_same W3 _ 2 _ 27 _ g1, (Below.heap_setCell W3 _ _ _ (by simp)).trans g2, (hB2.trans (hB.mono (by omega))).setCell (by simp) _, by have := hB.size; omega⟩
  obtain ⟨x0, x1, x2, x3, x4, x5, xf⟩ := cells6 hb2
  have hu2H := hide hu2; have hE2H := hide hE2; have hs2H := hide hs2
  clear hB2 hs2 hb2 hr2 hu1 hu2
  go_enter Try.func13, Try.ntmps13
  go_upto_region 1 with fail
  rw [← hE2]
  clear hE2
  go_upto_region 2 with (first | (go_at_call 26; refine hc1.out.mono ?_; rintro e W3 ⟨q1, d1, rfl, hB3, hq1, hq1n⟩; obtain ⟨g1, g2, g3, g4, g5⟩ := hk3.out W3 q1 d1 hB3; obtain ⟨y0, y1, y2, y3, y4, y5, yf⟩ := cells6 g1; have hq1H := hide hq1; have g2H := hide g2; have g3H := hide g3; have g4H := hide g4; clear hq1 g1 g2 g3 g4))
  obtain ⟨W4, hW4⟩ : ∃ W4, W4 = W3.setCell ⟨w.heap.size, 2, none⟩ (.slice q1 l1 d1) := ⟨_, rfl⟩
  rw [← hW4]
  have g2 := g2H.out; have g3 := g3H.out; have g4 := g4H.out
  rw [← hW4] at g2 g3 g4
  obtain ⟨z0, z1, z2, z3, z4, z5, zf⟩ := cells6 g2
  have hs4 : W4.heap.size = W3.heap.size := by rw [hW4]; exact World.size_setCell _ _ _
  have hs2 := hs2H.out
  have hc2 := hide (clone_any N p2 l2 c2 V2 W4 (hu2H.out.keep (g4.mono hN)) hl2)
  have hq1' : IsU W4.heap.size W4 q1 l1 d1 V1 := hq1H.out.move (by omega) (fun x e => by
    have := hq1n x e
    rw [hW4]
    exact Below.heap_setCell W3 _ _ _ (by show x.block ≠ w.heap.size; omega))
  have hk5 : Hid (∀ W5 q2 d2, Below W4.heap.size W4 W5 → IsU W5.heap.size W5 q2 l2 d2 V2 → (∀ x, q2 = some x → W4.heap.size ≤ x.block) →
      W5.heap[w.heap.size]? = some (.cells #[.bool h1, .bool a1, .slice q1 l1 d1, .bool h2, .bool a2, .slice p2 l2 c2] 27 (0, 0)) ∧
      (W5.setCell ⟨w.heap.size, 5, none⟩ (.slice q2 l2 d2)).heap[w.heap.size]? = some (.cells #[.bool h1, .bool a1, .slice q1 l1 d1, .bool h2, .bool a2, .slice q2 l2 d2] 27 (0, 0)) ∧
      (W5.setCell ⟨w.heap.size, 5, none⟩ (.slice q2 l2 d2)).heap[w.heap.size + 1]? = some (.cells #[.bool false, .bool false, .slice none 0 0, .bool false, .bool false, .slice none 0 0] 27 (0, 0)) ∧
      Below w.heap.size w (W5.setCell ⟨w.heap.size, 5, none⟩ (.slice q2 l2 d2)) ∧ IsU (W5.setCell ⟨w.heap.size, 5, none⟩ (.slice q2 l2 d2)).heap.size (W5.setCell ⟨w.heap.size, 5, none⟩ (.slice q2 l2 d2)) q1 l1 d1 V1 ∧ IsU (W5.setCell ⟨w.heap.size, 5, none⟩ (.slice q2 l2 d2)).heap.size (W5.setCell ⟨w.heap.size, 5, none⟩ (.slice q2 l2 d2)) q2 l2 d2 V2 ∧ (∀ x, q2 = some x → w.heap.size + 2 ≤ x.block) ∧ (∀ x, q1 = some x → w.heap.size + 2 ≤ x.block)) := fun W5 q2 d2 hB hq2 hq2n => by
    have b1 : W5.heap[w.heap.size]? = _ := (hB.block _ (by omega)).trans g2
    have b2 : W5.heap[w.heap.size + 1]? = _ := (hB.block _ (by omega)).trans g3
    have hz : (W5.setCell ⟨w.heap.size, 5, none⟩ (.slice q2 l2 d2)).heap.size = W5.heap.size := World.size_setCell _ _ _
    refine ⟨b1, heap_setCell_same W5 _ 5 _ 27 _ b1, (Below.heap_setCell W5 _ _ _ (by simp)).trans b2, (g4.trans (hB.mono (by omega))).setCell (by simp) _, ?_, ?_, fun x e => by have := hq2n x e; omega, fun x e => by have := hq1n x e; omega⟩
    · refine (hq1'.keep hB).move (by rw [hz]; exact hB.size) (fun x e => Below.heap_setCell W5 _ _ _ (by have := hq1n x e; show x.block ≠ w.heap.size; omega))
    · exact hq2.move (by rw [hz]; exact Nat.le_refl _) (fun x e => Below.heap_setCell W5 _ _ _ (by have := hq2n x e; show x.block ≠ w.heap.size; omega))
  clear hW4 g2 g3 g4 hq1' g2H g3H g4H hq1H hk3 hc1 x0 x1 x2 x3 x4 x5 xf y0 y1 y2 y3 y4 y5 yf
  go_upto_region 3 with (first | (go_at_call 26; refine hc2.out.mono ?_; rintro e W5 ⟨q2, d2, rfl, hB5, hq2, hq2n⟩; obtain ⟨b1, b2, b3, b4, b5, b6, b7, b8⟩ := hk5.out W5 q2 d2 hB5 hq2 hq2n; obtain ⟨y0, y1, y2, y3, y4, y5, yf⟩ := cells6 b1; have b2H := hide b2; have b3H := hide b3; have b4H := hide b4; have b5H := hide b5; have b6H := hide b6; clear b1 b2 b3 b4 b5 b6 hq2))
  obtain ⟨W6, hW6⟩ : ∃ W6, W6 = W5.setCell ⟨w.heap.size, 5, none⟩ (.slice q2 l2 d2) := ⟨_, rfl⟩
  rw [← hW6]
  have b2 := b2H.out; have b3 := b3H.out; have b4 := b4H.out; have b5 := b5H.out; have b6 := b6H.out
  rw [← hW6] at b2 b3 b4 b5 b6
  obtain ⟨u0, u1, u2, u3, u4, u5, uf⟩ := cells6 b2
  obtain ⟨r0, r1, r2, r3, r4, r5, rf⟩ := cells6 b3
  have b3H' := hide b3; have b4H' := hide b4; have b5H' := hide b5; have b6H' := hide b6
  clear b2 b3 b4 b5 b6 b2H b3H b4H b5H b6H hW6 y0 y1 y2 y3 y4 y5 yf z0 z1 z2 z3 z4 z5 zf hk5 hc2
  go_wp2_with fail
  refine bodyPost_ret (results_cell_row rfl _ _ (w.heap.size + 1) 27 _ (0, 0) _ rfl (set6 b3H'.out) Try.underlying27 rfl size27) rfl ?_
  have hne : ∀ b, b ≠ w.heap.size + 1 → ((((((W6.setCell ⟨w.heap.size + 1, 0, none⟩ (.bool h1)).setCell ⟨w.heap.size + 1, 1, none⟩ (.bool a1)).setCell ⟨w.heap.size + 1, 2, none⟩ (.slice q1 l1 d1)).setCell ⟨w.heap.size + 1, 3, none⟩ (.bool h2)).setCell ⟨w.heap.size + 1, 4, none⟩ (.bool a2)).setCell ⟨w.heap.size + 1, 5, none⟩ (.slice q2 l2 d2)).heap[b]? = W6.heap[b]? := fun b hb => by
    rw [Below.heap_setCell _ _ _ b (by exact hb), Below.heap_setCell _ _ _ b (by exact hb), Below.heap_setCell _ _ _ b (by exact hb), Below.heap_setCell _ _ _ b (by exact hb), Below.heap_setCell _ _ _ b (by exact hb), Below.heap_setCell _ _ _ b (by exact hb)]
  refine ⟨q1, d1, q2, d2, rfl, ?_, b5H'.out.move (by simp) (fun x e => hne _ (by have := b8 x e; omega)), b6H'.out.move (by simp) (fun x e => hne _ (by have := b7 x e; omega)), fun x e => by have := b8 x e; omega, fun x e => by have := b7 x e; omega⟩
  exact (((((b4H'.out.setCell (by simp) _).setCell (by simp) _).setCell (by simp) _).setCell (by simp) _).setCell (by simp) _).setCell (by simp) _
end Go.Proofs.Qxb6600422a
