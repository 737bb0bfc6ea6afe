import Derived.Test.Qxb6001038aRows
import Derived.Test.Qxb6001038aRun
import Derived.Test.Qxb6001038aLs
namespace Go.Proofs.Qxb6001038a
open Go.RowKit
set_option linter.unusedVariables false

/-- The zero entry's four cells. -/
def zEn : Value := .agg #[.string ⟨#[]⟩, .slice none 0 0, .int .u64 0, .int .u64 0]
theorem infoEn : (Try.prog.info? 75).map (fun i => (i.zero, i.size, i.bytes)) = some (some zEn, 4, 56) := by kernel_rfl
theorem infoCh : (Try.prog.info? 29).map (fun i => (i.zero, i.size, i.bytes)) = some (some (.pointer none), 1, 8) := by kernel_rfl
theorem sizeEn : ∀ w, (Go.sizeOf 75).run Try.prog w = .ok 4 w := by
  intro w
  obtain ⟨i0, hi0, hz0, hz1, hz2⟩ := info_parts infoEn
  simp [sizeOf, typeInfo, hi0, hz1]

theorem overlapsE (w : World) (vb g o lb cb : Nat) (vs cur : Array Value) (hv : w.heap[vb]? = some (.cells vs 75 (0, 0))) (hg : w.heap[g]? = some (.cells cur 75 (0, 0))) (hne : vb ≠ g) (hc : cur.size ≠ 0) :
    (callFunc 50 #[.slice (some ⟨vb, 0, none⟩) 1 1, .slice (some ⟨g, o, none⟩) lb cb]).run Try.prog w = .ok (.value (.bool false)) w := by
  rw [run_callFunc_extern Try.func50 (by kernel_rfl) (by kernel_rfl) (by kernel_rfl) (e := Extern.SlicesOverlaps.overlaps #[61, 61] #[4]) (by kernel_rfl),
    Lib.run_overlaps_apart w 61 4 75 Try.underlying61 4 sizeEn ⟨vb, 0, none⟩ ⟨g, o, none⟩ 1 1 lb cb hne 75 75 vs.size cur.size (by simp [World.shape?, hv]) (by simp [World.shape?, hg]) hc
      (frozen_of_row w vb 0 vs 75 hv) (frozen_of_row w vb vs.size vs 75 hv)]
  rfl

set_option maxHeartbeats 1000000 in
theorem insE_shift (g n cap i vb : Nat) (cur vs : Array Value) (w : World) (hg : w.heap[g]? = some (.cells cur 75 (0, 0))) (hv : w.heap[vb]? = some (.cells vs 75 (0, 0))) (hvs : vs.size = 4) (hne : vb ≠ g)
    (hi : i < n) (hroom : n + 1 ≤ cap) (hcap : cap ≤ 9223372036854775807) (hcur : cur.size = cap * 4) (h1 : ∀ u ∈ (cur.toList.take (n * 4)), u.oneCell' = true) (h1v : ∀ u ∈ vs.toList, u.oneCell' = true) :
    Calls Try.prog 43 #[.slice (some ⟨g, 0, none⟩) n cap, .int .i64 i, .slice (some ⟨vb, 0, none⟩) 1 1] w fun e w' =>
      e = .returned (.slice (some ⟨g, 0, none⟩) (n + 1) cap) ∧
      w' = (w.drew.setRow g (splice cur.toList ((i + 1) * 4) ((cur.toList.take (n * 4)).drop (i * 4))).toArray).setRow g (splice (splice cur.toList ((i + 1) * 4) ((cur.toList.take (n * 4)).drop (i * 4))) (i * 4) vs.toList).toArray := by
  have hov := fun o lb cb => overlapsE w vb g o lb cb vs cur hv hg hne (by omega)
  obtain ⟨i0, hi0, hz0, hz1, hz2⟩ := info_parts infoEn
  obtain ⟨X, hX⟩ : ∃ X, X = (cur.toList.take (n * 4)).drop (i * 4) := ⟨_, rfl⟩
  have hXl : X.length = (n - i) * 4 := by rw [hX, List.length_drop, List.length_take, Array.length_toList, hcur]; omega
  have hXs : ∀ j u, X[j]? = some u → w.drew.cell? ((⟨g, i * 4, none⟩ : Addr).add j) = some u := by
    intro j u hj
    rw [hX, List.getElem?_drop, List.getElem?_take] at hj
    split at hj
    · rw [Addr.add_lit]; exact (cell_of_row w g _ cur 75 (0, 0) hg).trans (by simpa using hj)
    · cases hj
  have hX1 : ∀ u ∈ X, u.oneCell' = true := fun u hu => h1 u (List.mem_of_mem_drop (by rw [hX] at hu; exact hu))
  have hcp1 : ∀ ty dc sc, (Builtin.copy_ #[61, 61] ty #[.slice (some ⟨g, (i + 1) * 4, none⟩) (n - i) dc, .slice (some ⟨g, i * 4, none⟩) (n + 1 - i) sc]).run Try.prog w.drew =
        .ok (goInt ((n - i : Nat) : Int)) (w.drew.setRow g (splice cur.toList ((i + 1) * 4) X).toArray) := fun ty dc sc => by
    have h := run_copyK (P := Try.prog) w.drew 61 61 ty 75 i0 g ((i + 1) * 4) (n - i) dc ⟨g, i * 4, none⟩ (n + 1 - i) sc cur 75 X Try.underlying61 hi0 hg (by rw [hXl, hz1]; simp only [Nat.min_def]; split <;> omega) hXs (by rw [hXl]; omega) hX1
    rw [show Nat.min (n + 1 - i) (n - i) = n - i by simp only [Nat.min_def]; split <;> omega] at h
    exact h
  rw [← hX]
  obtain ⟨R1, hR1⟩ : ∃ R1, R1 = splice cur.toList ((i + 1) * 4) X := ⟨_, rfl⟩
  rw [← hR1] at hcp1 ⊢
  have hR1l : R1.length = cap * 4 := by rw [hR1, length_splice _ _ _ (by rw [hXl, Array.length_toList]; omega), Array.length_toList, hcur]
  obtain ⟨W1, hW1⟩ : ∃ W1, W1 = w.drew.setRow g R1.toArray := ⟨_, rfl⟩
  rw [← hW1] at hcp1 ⊢
  have hg1 : W1.heap[g]? = some (.cells R1.toArray 75 (0, 0)) := by rw [hW1]; exact setRow_heap w.drew g cur _ 75 _ hg
  have hv1 : W1.heap[vb]? = some (.cells vs 75 (0, 0)) := by rw [hW1, setRow_other w.drew g vb _ hne]; exact hv
  have hcp2 : ∀ ty dc, (Builtin.copy_ #[61, 61] ty #[.slice (some ⟨g, i * 4, none⟩) (n + 1 - i) dc, .slice (some ⟨vb, 0, none⟩) 1 1]).run Try.prog W1 =
      .ok (goInt 1) (W1.setRow g (splice R1 (i * 4) vs.toList).toArray) := fun ty dc => by
    have h := run_copyK (P := Try.prog) W1 61 61 ty 75 i0 g (i * 4) (n + 1 - i) dc ⟨vb, 0, none⟩ 1 1 R1.toArray 75 vs.toList Try.underlying61 hi0 hg1 (by rw [hz1, Array.length_toList, hvs]; simp only [Nat.min_def]; split <;> omega)
      (World.news_of_block hv1) (by simp [hvs, hR1l]; omega) h1v
    rw [show Nat.min 1 (n + 1 - i) = 1 by simp only [Nat.min_def]; split <;> omega] at h
    exact h
  have hw1 : IntKind.i64.wrap ((i : Int) + 1) = (i : Int) + 1 := by rw [IntKind.wrap_i64]; omega
  have hb1 : (0 : Int) ≤ (i : Int) + 1 := by omega
  have htn : ((i : Int) + 1).toNat = i + 1 := by omega
  have hb2 : ¬ (cap = i + 1) := by omega
  have hb3 : (i : Int) ≤ (n : Int) + 1 := by omega
  have hb4 : ¬ (cap = i) := by omega
  have hin : i ≤ n := by omega
  have hHX := hide hX; have hHR := hide hR1; have hHW := hide hW1
  clear hX hR1 hW1 hXs hX1
  go_enter Try.func43, Try.ntmps43
  go_wp2_with (simp only [hov])
  go_region_law (refine step_copy_run rfl _ _ 61 61 rfl _ _ (by simp [Act.eval, Act.put]) (by simp [Act.eval, Act.put]) (hcp1 _ _ _) ?_)
  go_wp2_with (at_builtin; refine wpList_copy_run _ rfl _ _ 61 61 rfl _ _ rfl rfl (hcp2 _ _) ?_)
  go_ret
  exact ⟨rfl, rfl⟩

set_option maxHeartbeats 1000000 in
theorem insE_grow (g n i vb : Nat) (cur vs : Array Value) (w : World) (hg : w.heap[g]? = some (.cells cur 75 (0, 0))) (hv : w.heap[vb]? = some (.cells vs 75 (0, 0))) (hvs : vs.size = 4) (hne : vb ≠ g)
    (hi : i < n) (hn : n < 1000000) (hcur : cur.size = n * 4) (h1 : ∀ u ∈ cur.toList, u.oneCell' = true) (h1v : ∀ u ∈ vs.toList, u.oneCell' = true) :
    Calls Try.prog 43 #[.slice (some ⟨g, 0, none⟩) n n, .int .i64 i, .slice (some ⟨vb, 0, none⟩) 1 1] w fun e w' =>
      ∃ G Z, Z.length = (G - i) * 4 ∧ n + 1 ≤ G ∧ G ≤ maxLen ∧ e = .returned (.slice (some ⟨w.heap.size, 0, none⟩) (n + 1) G) ∧
      w.grownBy w' none ∧ w'.heap[w.heap.size]? = some (.cells (splice (splice (cur.toList.take (i * 4) ++ Z) (i * 4) vs.toList) ((i + 1) * 4) (cur.toList.drop (i * 4))).toArray 75 (0, 0)) := by
  obtain ⟨i0, hi0, hz0, hz1, hz2⟩ := info_parts infoEn
  have hgw : g < w.heap.size := (Array.getElem?_eq_some_iff.1 hg).1
  have hvw : vb < w.heap.size := (Array.getElem?_eq_some_iff.1 hv).1
  obtain ⟨O, hO⟩ : ∃ O, O = cur.toList.take (i * 4) := ⟨_, rfl⟩
  have hOl : O.length = i * 4 := by rw [hO, List.length_take, Array.length_toList, hcur]; omega
  have hold : (Builtin.firstCells i0.size i (.slice (some ⟨g, 0, none⟩) i n)).run Try.prog w.drew = .ok O.toArray w.drew := by
    rw [hz1]
    exact run_firstCells_some w.drew 4 i ⟨g, 0, none⟩ i n O hOl (fun j u hj => by
      rw [hO, List.getElem?_take] at hj
      split at hj
      · rw [Addr.add_lit]; exact (cell_of_row w g _ cur 75 (0, 0) hg).trans (by simpa using hj)
      · cases hj)
  obtain ⟨G, hG⟩ : ∃ G, G = grownCap w (n + 1) n 75 := ⟨_, rfl⟩
  have hGn : n + 1 ≤ G := by rw [hG]; exact grownCap_ge w _ _ _
  have hG63 : G ≤ maxLen := by rw [hG]; exact grownCap_le_maxLen w (n + 1) n 75 (by unfold maxLen; omega)
  obtain ⟨Z, hZ⟩ : ∃ Z, Z = (Builtin.zeroCells zEn.cells (n + 1 - i) ++ Builtin.zeroCells zEn.cells (G - (n + 1))).toList := ⟨_, rfl⟩
  have hZl : Z.length = (G - i) * 4 := by
    rw [hZ, Array.length_toList, Array.size_append, size_zeroCells, size_zeroCells]
    show (n + 1 - i) * 4 + (G - (n + 1)) * 4 = _
    omega
  have hrz : ∀ ty, (Builtin.append_ #[61, 3] ty #[.slice (some ⟨g, 0, none⟩) i n, .int .i64 ((n : Int) + 1 - (i : Int))]).run Try.prog w =
      .ok (.slice (some ⟨w.heap.size, 0, none⟩) (n + 1) G) (w.drew.alloc (.cells (O ++ Z).toArray 75)) := fun ty => by
    have h := Lib.run_append_grow_zeros (P := Try.prog) w 61 3 ty 75 i0 zEn .i64 .i64 Try.underlying61 Try.underlying3 hi0 hz0 (some ⟨g, 0, none⟩) i n O hold (n + 1 - i) (by omega) (by omega) (by omega) (by omega) (by rw [hz2]; omega) (by rw [hz2, show i + (n + 1 - i) = n + 1 by omega]; exact growslice_fits (by omega) (by omega))
    rw [show i + (n + 1 - i) = n + 1 by omega, ← hG] at h
    rw [show ((n : Int) + 1 - (i : Int)) = ((n + 1 - i : Nat) : Int) by omega, h, hZ]
    congr 3
    simp
  obtain ⟨W1, hW1⟩ : ∃ W1, W1 = w.drew.alloc (.cells (O ++ Z).toArray 75) := ⟨_, rfl⟩
  rw [← hW1] at hrz
  have hN1 : W1.heap[w.heap.size]? = some (.cells (O ++ Z).toArray 75 (0, 0)) := by rw [hW1]; exact heap_alloc_new w.drew _
  have hg1 : W1.heap[g]? = some (.cells cur 75 (0, 0)) := by rw [hW1, Below.heap_alloc w.drew _ g hgw]; exact hg
  have hv1 : W1.heap[vb]? = some (.cells vs 75 (0, 0)) := by rw [hW1, Below.heap_alloc w.drew _ vb hvw]; exact hv
  have hgr1 : w.grownBy W1 none := by rw [hW1]; exact ⟨rfl, rfl, rfl, by simp, fun k hk _ => Below.heap_alloc w.drew _ k hk⟩
  have hcp1 : ∀ ty dc, (Builtin.copy_ #[61, 61] ty #[.slice (some ⟨w.heap.size, i * 4, none⟩) (n + 1 - i) dc, .slice (some ⟨vb, 0, none⟩) 1 1]).run Try.prog W1 =
      .ok (goInt 1) (W1.setRow w.heap.size (splice (O ++ Z) (i * 4) vs.toList).toArray) := fun ty dc => by
    have h := run_copyK (P := Try.prog) W1 61 61 ty 75 i0 w.heap.size (i * 4) (n + 1 - i) dc ⟨vb, 0, none⟩ 1 1 (O ++ Z).toArray 75 vs.toList Try.underlying61 hi0 hN1 (by rw [hz1, Array.length_toList, hvs]; simp only [Nat.min_def]; split <;> omega)
      (World.news_of_block hv1) (by simp [hvs, hOl, hZl]; omega) h1v
    rw [show Nat.min 1 (n + 1 - i) = 1 by simp only [Nat.min_def]; split <;> omega] at h
    exact h
  obtain ⟨R1, hR1⟩ : ∃ R1, R1 = splice (O ++ Z) (i * 4) vs.toList := ⟨_, rfl⟩
  rw [← hR1] at hcp1
  have hR1l : R1.length = G * 4 := by rw [hR1, length_splice _ _ _ (by simp [hvs, hOl, hZl]; omega)]; simp [hOl, hZl]; omega
  obtain ⟨W2, hW2⟩ : ∃ W2, W2 = W1.setRow w.heap.size R1.toArray := ⟨_, rfl⟩
  rw [← hW2] at hcp1
  have hN2 : W2.heap[w.heap.size]? = some (.cells R1.toArray 75 (0, 0)) := by rw [hW2]; exact setRow_heap W1 w.heap.size _ _ 75 _ hN1
  have hg2 : W2.heap[g]? = some (.cells cur 75 (0, 0)) := by rw [hW2, setRow_other W1 _ g _ (by omega)]; exact hg1
  have hgr2 : w.grownBy W2 none := by
    rw [hW2]; exact ⟨hgr1.os, hgr1.tape, hgr1.output, by rw [size_setRow]; exact hgr1.size, fun k hk hne => (setRow_other W1 _ k _ (by omega)).trans (hgr1.block k hk hne)⟩
  have hXl : (cur.toList.drop (i * 4)).length = (n - i) * 4 := by rw [List.length_drop, Array.length_toList, hcur]; omega
  have hcp2 : ∀ ty dc sc, (Builtin.copy_ #[61, 61] ty #[.slice (some ⟨w.heap.size, (i + 1) * 4, none⟩) (n - i) dc, .slice (some ⟨g, i * 4, none⟩) (n - i) sc]).run Try.prog W2.drew =
      .ok (goInt ((n - i : Nat) : Int)) (W2.drew.setRow w.heap.size (splice R1 ((i + 1) * 4) (cur.toList.drop (i * 4))).toArray) := fun ty dc sc => by
    have h := run_copyK (P := Try.prog) W2.drew 61 61 ty 75 i0 w.heap.size ((i + 1) * 4) (n - i) dc ⟨g, i * 4, none⟩ (n - i) sc R1.toArray 75 (cur.toList.drop (i * 4)) Try.underlying61 hi0 hN2 (by rw [hXl, hz1]; simp only [Nat.min_def]; split <;> omega)
      (fun j u hj => by
        rw [List.getElem?_drop] at hj
        rw [Addr.add_lit]; exact (cell_of_row W2 g _ cur 75 (0, 0) hg2).trans (by simpa using hj))
      (by rw [hXl]; simp [hR1l]; omega) (fun u hu => h1 u (List.mem_of_mem_drop hu))
    rw [show Nat.min (n - i) (n - i) = n - i by simp] at h
    exact h
  obtain ⟨W3, hW3⟩ : ∃ W3, W3 = W2.drew.setRow w.heap.size (splice R1 ((i + 1) * 4) (cur.toList.drop (i * 4))).toArray := ⟨_, rfl⟩
  rw [← hW3] at hcp2
  have hfin : Hid (w.grownBy W3 none ∧ W3.heap[w.heap.size]? = some (.cells (splice (splice (cur.toList.take (i * 4) ++ Z) (i * 4) vs.toList) ((i + 1) * 4) (cur.toList.drop (i * 4))).toArray 75 (0, 0))) := by
    refine ⟨?_, ?_⟩
    · rw [hW3]; exact ⟨hgr2.os, hgr2.tape, hgr2.output, by rw [size_setRow]; exact hgr2.size, fun k hk hne => (setRow_other W2.drew _ k _ (by omega)).trans (hgr2.block k hk hne)⟩
    · rw [hW3, ← hO, ← hR1]; exact setRow_heap W2.drew w.heap.size _ _ 75 _ hN2
  have hw1 : IntKind.i64.wrap ((i : Int) + 1) = (i : Int) + 1 := by rw [IntKind.wrap_i64]; omega
  have hb1 : (0 : Int) ≤ (i : Int) + 1 := by omega
  have htn : ((i : Int) + 1).toNat = i + 1 := by omega
  have hb2 : ¬ (G = i + 1) := by omega
  have hb3 : (i : Int) ≤ (n : Int) + 1 := by omega
  have hb4 : ¬ (G = i) := by omega
  have hb5 : ¬ (n = i) := by omega
  have hin : i ≤ n := by omega
  have hG63' : G ≤ 9223372036854775807 := by unfold maxLen at hG63; omega
  have hGH := hide hG63; have hZH := hide hZl
  clear hO hOl hold hG hG63 hZ hZl hW1 hN1 hg1 hv1 hgr1 hR1 hR1l hW2 hN2 hg2 hgr2 hXl hW3 hz0 hz1 hz2
  go_enter Try.func43, Try.ntmps43
  go_wp2_with (first | (at_builtin; refine wpList_append_run _ rfl _ _ 61 3 rfl _ _ rfl rfl (hrz _) ?_) | (refine wpList_copy_run _ rfl _ _ 61 61 rfl _ _ rfl rfl (hcp1 _ _) ?_))
  go_region_law (refine step_copy_run rfl _ _ 61 61 rfl _ _ (by simp [Act.eval, Act.put]) (by simp [Act.eval, Act.put]) (hcp2 _ _ _) ?_)
  go_wp2
  go_ret
  exact ⟨G, Z, hZH.out, hGn, hGH.out, rfl, hfin.out⟩

set_option maxHeartbeats 1000000 in
theorem insE_end (v : Value) (n vb base : Nat) (xs vs : List Value) (w : World) (hown : w.ownsRow base 75 4 v n xs) (hv : w.heap[vb]? = some (.cells vs.toArray 75 (0, 0))) (hvs : vs.length = 4)
    (hn : n < 1000000) (h1v : ∀ u ∈ vs, u.oneCell' = true) (hbase : base ≤ w.heap.size) :
    Calls Try.prog 43 #[v, .int .i64 n, .slice (some ⟨vb, 0, none⟩) 1 1] w fun e w' =>
      ∃ g cap, e = .returned (.slice (some ⟨g, 0, none⟩) (n + 1) cap) ∧ w'.ownsRow base 75 4 (.slice (some ⟨g, 0, none⟩) (n + 1) cap) (n + 1) (xs ++ vs) ∧ w.grownBy w' v.ownBlock ∧ (v.ownBlock = some g ∨ g = w.heap.size) := by
  obtain ⟨i0, hi0, hz0, hz1, hz2⟩ := info_parts infoEn
  have hnews := hide (World.news_of_block (w := w) hv)
  have h1H := hide h1v
  have hownH := hide hown
  rcases hown.2 with ⟨rfl, rfl⟩ | ⟨g, cap, cur, rfl, hb, hg, hnc, hcm, hcs, htake⟩
  · clear hown h1v hv
    go_enter Try.func43, Try.ntmps43
    go_wp2_with (at_builtin; refine wpList_append_lies _ rfl _ _ 61 rfl base 75 i0 zEn 4 56 Try.underlying61 hi0 hz0 hz1 hz2 rfl (by omega) _ _ xs rfl hownH.out ⟨vb, 0, none⟩ 1 1 vs rfl (by omega) hnews.out h1H.out (by omega) (by unfold maxLen; omega) (by omega) hbase _ rfl ?_; intro g cap w1 hown1 hgrow hat hlt)
    go_ret
    exact ⟨g, cap, rfl, hown1, hgrow, hat⟩
  · have hcm' : cap ≤ 9223372036854775807 := by unfold maxLen at hcm; omega
    clear hown h1v hv hg hcm hcs htake
    by_cases hc : cap = n
    · subst hc
      go_enter Try.func43, Try.ntmps43
      go_wp2_with (at_builtin; refine wpList_append_lies _ rfl _ _ 61 rfl base 75 i0 zEn 4 56 Try.underlying61 hi0 hz0 hz1 hz2 rfl (by omega) _ _ xs rfl hownH.out ⟨vb, 0, none⟩ 1 1 vs rfl (by omega) hnews.out h1H.out (by omega) (by unfold maxLen; omega) (by omega) hbase _ rfl ?_; intro g cap w1 hown1 hgrow hat hlt)
      go_ret
      exact ⟨_, _, rfl, hown1, hgrow, hat⟩
    · go_enter Try.func43, Try.ntmps43
      go_wp2_with (at_builtin; refine wpList_append_lies _ rfl _ _ 61 rfl base 75 i0 zEn 4 56 Try.underlying61 hi0 hz0 hz1 hz2 rfl (by omega) _ _ xs rfl hownH.out ⟨vb, 0, none⟩ 1 1 vs rfl (by omega) hnews.out h1H.out (by omega) (by unfold maxLen; omega) (by omega) hbase _ rfl ?_; intro g cap w1 hown1 hgrow hat hlt)
      go_ret
      exact ⟨_, _, rfl, hown1, hgrow, hat⟩

/-- slices.Insert of one element, at whatever place. -/
theorem insE (v : Value) (n i vb base : Nat) (xs vs : List Value) (w : World) (hown : w.ownsRow base 75 4 v n xs) (hv : w.heap[vb]? = some (.cells vs.toArray 75 (0, 0))) (hvs : vs.length = 4)
    (hvb : v.ownBlock ≠ some vb) (hi : i ≤ n) (hn : n < 1000000) (h1 : ∀ u ∈ xs, u.oneCell' = true) (h1v : ∀ u ∈ vs, u.oneCell' = true) (hbase : base ≤ w.heap.size) :
    Calls Try.prog 43 #[v, .int .i64 i, .slice (some ⟨vb, 0, none⟩) 1 1] w fun e w' =>
      ∃ g cap, e = .returned (.slice (some ⟨g, 0, none⟩) (n + 1) cap) ∧ w'.ownsRow base 75 4 (.slice (some ⟨g, 0, none⟩) (n + 1) cap) (n + 1) (xs.take (i * 4) ++ (vs ++ xs.drop (i * 4))) ∧
        w.grownBy w' v.ownBlock ∧ (v.ownBlock = some g ∨ g = w.heap.size) := by
  by_cases hin : i = n
  · subst hin
    refine (insE_end v i vb base xs vs w hown hv hvs hn h1v hbase).mono ?_
    rintro e w' ⟨g, cap, rfl, h2, h3, h4⟩
    refine ⟨g, cap, rfl, ?_, h3, h4⟩
    rw [List.take_of_length_le (by rw [hown.1]; exact Nat.le_refl _), List.drop_eq_nil_of_le (by rw [hown.1]; exact Nat.le_refl _), List.append_nil]
    exact h2
  · have hl := hown.1
    rcases hown.2 with ⟨rfl, rfl⟩ | ⟨g, cap, cur, rfl, hb, hg, hnc, hcm, hcs, htake⟩
    · omega
    · have hne : vb ≠ g := fun e => hvb (by rw [e]; rfl)
      by_cases hroom : n + 1 ≤ cap
      · refine (insE_shift g n cap i vb cur vs.toArray w hg hv (by simpa using hvs) hne (by omega) hroom (by unfold maxLen at hcm; omega) hcs (by rw [htake]; exact h1) (by simpa using h1v)).mono ?_
        rintro e w' ⟨rfl, rfl⟩
        rw [setRow_setRow, show (i + 1) * 4 = i * 4 + 4 by omega]
        have hlL : n * 4 + 4 ≤ cur.toList.length := by rw [Array.length_toList, hcs]; omega
        refine ⟨g, cap, rfl, ⟨?_, .inr ⟨g, cap, _, rfl, hb, setRow_heap w.drew g cur _ 75 _ hg, hroom, hcm, ?_, ?_⟩⟩, ?_, .inl rfl⟩
        · simp [hl, hvs]; omega
        · simp only [List.size_toArray]
          rw [sp_shift_len cur.toList vs (i * 4) 4 (n * 4) hvs (by omega) hlL, Array.length_toList, hcs]
        · have := sp_shift cur.toList vs (i * 4) 4 (n * 4) hvs (by omega) hlL
          rw [htake] at this
          simp only [Nat.add_mul, Nat.one_mul]
          rw [htake]
          exact this
        · exact ⟨rfl, rfl, rfl, by rw [size_setRow]; exact Nat.le_refl _, fun k _ hk => setRow_other w.drew g k _ (fun e => hk (by simp [Value.ownBlock, e]))⟩
      · have hcn : cap = n := by omega
        subst hcn
        have hcl : cur.toList.length = cap * 4 := by rw [Array.length_toList, hcs]
        have hx : cur.toList = xs := by rw [← htake, List.take_of_length_le (by omega)]
        refine (insE_grow g cap i vb cur vs.toArray w hg hv (by simpa using hvs) hne (by omega) hn hcs (by rw [hx]; exact h1) (by simpa using h1v)).mono ?_
        rintro e w' ⟨G, Z, hZ, hG, hGm, rfl, hgr, hh⟩
        rw [show (i + 1) * 4 = i * 4 + 4 by omega, hx] at hh
        refine ⟨_, G, rfl, ⟨?_, .inr ⟨w.heap.size, G, _, rfl, hbase, hh, hG, hGm, ?_, ?_⟩⟩, ?_, .inr rfl⟩
        · simp [hl, hvs]; omega
        · simp only [List.size_toArray]
          rw [sp_grow_len xs Z vs (i * 4) 4 (cap * 4) hvs (by omega) hl (by omega)]
          omega
        · have := sp_grow xs Z vs (i * 4) 4 (cap * 4) hvs (by omega) hl (by omega)
          simp only [Nat.add_mul, Nat.one_mul]
          exact this
        · exact ⟨hgr.os, hgr.tape, hgr.output, hgr.size, fun k hk _ => hgr.block k hk (by simp)⟩

end Go.Proofs.Qxb6001038a
