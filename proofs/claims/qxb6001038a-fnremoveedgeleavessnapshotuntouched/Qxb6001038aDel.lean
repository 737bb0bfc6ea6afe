import Derived.Test.Qxb6001038aIns
namespace Go.Proofs.Qxb6001038a
open Go.RowKit
set_option linter.unusedVariables false

theorem del_list {α : Type} (L Z : List α) (a k N : Nat) (ha : a + k ≤ N) (hN : N ≤ L.length) (hZ : Z.length = k) :
    (splice (L.take a ++ ((L.take N).drop (a + k) ++ L.drop (a + (N - (a + k))))) (N - k) Z).take (N - k) = (L.take N).take a ++ (L.take N).drop (a + k) := by
  have hd : ((L.take N).drop (a + k)).length = N - (a + k) := by simp; omega
  unfold splice
  rw [List.take_append_of_le_length (by simp; omega), List.take_take, Nat.min_self, ← List.append_assoc, List.take_append_of_le_length (by simp; omega), List.take_of_length_le (by simp; omega)]
  rw [List.take_take, Nat.min_eq_left (by omega)]

theorem del_len {α : Type} (L Z : List α) (a k N : Nat) (ha : a + k ≤ N) (hN : N ≤ L.length) (hZ : Z.length = k) :
    (splice (L.take a ++ ((L.take N).drop (a + k) ++ L.drop (a + (N - (a + k))))) (N - k) Z).length = L.length := by
  have h1 : (L.take a ++ ((L.take N).drop (a + k) ++ L.drop (a + (N - (a + k))))).length = L.length := by simp; omega
  rw [length_splice _ _ _ (by rw [h1]; omega), h1]

set_option maxHeartbeats 1000000 in
theorem delE_core (g n cap i : Nat) (cur : Array Value) (w : World) (hg : w.heap[g]? = some (.cells cur 75 (0, 0)))
    (hi : i < n) (hnc : n ≤ cap) (hcap : cap ≤ 9223372036854775807) (hcur : cur.size = cap * 4) (h1 : ∀ u ∈ (cur.toList.take (n * 4)), u.oneCell' = true) :
    Calls Try.prog 46 #[.slice (some ⟨g, 0, none⟩) n cap, .int .i64 i, .int .i64 ((i : Int) + 1)] w fun e w' =>
      e = .returned (.slice (some ⟨g, 0, none⟩) (n - 1) cap) ∧ ∃ Z : List Value, Z.length = 4 ∧
      w' = (w.drew.setRow g (splice (cur.toList.take (i * 4) ++ ((cur.toList.take (n * 4)).drop (i * 4 + 4) ++ cur.toList.drop (i * 4 + (n * 4 - (i * 4 + 4))))) (n * 4 - 4) Z).toArray) := by
  obtain ⟨i0, hi0, hz0, hz1, hz2⟩ := info_parts infoEn
  obtain ⟨X, hX⟩ : ∃ X, X = (cur.toList.take (n * 4)).drop (i * 4 + 4) := ⟨_, rfl⟩
  have hXl : X.length = (n - (i + 1)) * 4 := by rw [hX, List.length_drop, List.length_take, Array.length_toList, hcur]; omega
  have hXs : ∀ j u, X[j]? = some u → w.drew.cell? ((⟨g, (i + 1) * 4, none⟩ : Addr).add j) = some u := by
    intro j u hj
    rw [hX, List.getElem?_drop, List.getElem?_take] at hj
    split at hj
    · rw [Addr.add_lit, show (i + 1) * 4 + j = i * 4 + 4 + j by omega]; exact (cell_of_row w g _ cur 75 (0, 0) hg).trans (by simpa using hj)
    · cases hj
  have hX1 : ∀ u ∈ X, u.oneCell' = true := fun u hu => h1 u (List.mem_of_mem_drop (by rw [hX] at hu; exact hu))
  obtain ⟨R1, hR1⟩ : ∃ R1, R1 = cur.toList.take (i * 4) ++ (X ++ cur.toList.drop (i * 4 + (n * 4 - (i * 4 + 4)))) := ⟨_, rfl⟩
  have hR1l : R1.length = cap * 4 := by rw [hR1]; simp [hXl, hcur]; omega
  have hap : ∀ ty A c m, m = n - (i + 1) → (cap ≠ i + 1 → A = ⟨g, (i + 1) * 4, none⟩) → (Builtin.append_ #[61, 61] ty #[.slice (some ⟨g, 0, none⟩) i cap, .slice (some A) m c]).run Try.prog w.drew =
      .ok (.slice (some ⟨g, 0, none⟩) (n - 1) cap) (w.drew.setRow g R1.toArray) := fun ty A c m hm hA => by
    subst hm
    have h := run_append_room (P := Try.prog) w.drew 61 ty 75 i0 Try.underlying61 hi0 g i cap cur hg A (n - (i + 1)) c X (by rw [hXl, hz1]) (fun j u hj => by
        by_cases hc : cap = i + 1
        · have : X.length = 0 := by rw [hXl]; omega
          rw [List.eq_nil_of_length_eq_zero this] at hj; cases hj
        · rw [hA hc]; exact hXs j u hj) hX1 (by omega) (by rw [hz1, hXl]; omega)
    rw [show i + (n - (i + 1)) = n - 1 by omega, hz1] at h
    rw [h, hR1, hXl, show i * 4 + (n - (i + 1)) * 4 = i * 4 + (n * 4 - (i * 4 + 4)) by omega, List.append_assoc]
  obtain ⟨W1, hW1⟩ : ∃ W1, W1 = w.drew.setRow g R1.toArray := ⟨_, rfl⟩
  rw [← hW1] at hap
  have hg1 : W1.heap[g]? = some (.cells R1.toArray 75 (0, 0)) := by rw [hW1]; exact setRow_heap w.drew g cur _ 75 _ hg
  obtain ⟨Z, hZ⟩ : ∃ Z, Z = (Builtin.zeroCells zEn.cells 1).toList := ⟨_, rfl⟩
  have hZl : Z.length = 4 := by rw [hZ, Array.length_toList, size_zeroCells]; rfl
  have hcl : ∀ ty c o l, o = (n - 1) * 4 → l = 1 → (Builtin.clear_ #[61] ty #[.slice (some ⟨g, o, none⟩) l c]).run Try.prog W1 = .ok (.tuple #[]) (W1.setRow g (splice R1 (n * 4 - 4) Z).toArray) := fun ty c o l ho hl => by
    subst ho
    subst hl
    have h := run_clearK (P := Try.prog) W1 61 ty 75 i0 zEn g ((n - 1) * 4) 1 c R1.toArray 75 Try.underlying61 hi0 hz0 (by omega) hg1 (by show _ + 1 * 4 ≤ _; simp [hR1l]; omega) (by decide)
    rw [h, hZ, show (n - 1) * 4 = n * 4 - 4 by omega]
  have hfin : Hid (W1.setRow g (splice R1 (n * 4 - 4) Z).toArray = w.drew.setRow g (splice (cur.toList.take (i * 4) ++ ((cur.toList.take (n * 4)).drop (i * 4 + 4) ++ cur.toList.drop (i * 4 + (n * 4 - (i * 4 + 4))))) (n * 4 - 4) Z).toArray) := by
    unfold Hid
    rw [hW1, setRow_setRow, hR1, hX]
  have hZH := hide hZl
  have hself : Hid (n = i + 1 → W1 = w.drew) := by
    intro hn
    have hx : X = [] := List.eq_nil_of_length_eq_zero (by rw [hXl]; omega)
    have hr : R1 = cur.toList := by rw [hR1, hx, List.nil_append, show i * 4 + (n * 4 - (i * 4 + 4)) = i * 4 by omega, List.take_append_drop]
    rw [hW1, hr]
    exact setRow_self w.drew g cur 75 (0, 0) hg
  clear hX hXl hXs hX1 hR1 hR1l hW1 hg1 hZ hZl h1 hz0 hz1 hz2 hcur
  have hw1 : IntKind.i64.wrap ((i : Int) + 1) = (i : Int) + 1 := by rw [IntKind.wrap_i64]; omega
  have hb1 : (0 : Int) ≤ (i : Int) + 1 := by omega
  have htn : ((i : Int) + 1).toNat = i + 1 := by omega
  have hb3 : (i : Int) ≤ (n : Int) := by omega
  have hb4 : (i : Int) + 1 ≤ (n : Int) := by omega
  have hb6 : (i : Int) ≤ (cap : Int) := by omega
  have hb5 : ((i : Int) == (i : Int) + 1) = false := by rw [beq_eq_false_iff_ne]; omega
  by_cases hc : cap = i + 1
  · subst hc
    obtain rfl : n = i + 1 := by omega
    obtain rfl := hself.out rfl
    have hb7 : (i : Int) ≤ (i : Int) + 1 := by omega
    go_enter Try.func46, Try.ntmps46
    go_wp2
    go_region_law (fail)
    go_wp2_with (refine wpList_clear_run _ rfl _ 61 rfl _ rfl (hcl _ _ _ _ (by omega) (by omega)) ?_)
    go_ret
    exact ⟨rfl, Z, hZH.out, hfin.out⟩
  · go_enter Try.func46, Try.ntmps46
    go_wp2
    go_region_law (refine step_append_run rfl _ _ 61 61 rfl (.slice (some ⟨g, 0, none⟩) i cap) (.slice (some ⟨g, (i + 1) * 4, none⟩) (n - (i + 1)) (cap - (i + 1))) (by simp [Act.eval, Act.put]) (by simp [Act.eval, Act.put]) (hap _ _ _ _ rfl (fun _ => rfl)) ?_)
    go_wp2_with (refine wpList_clear_run _ rfl _ 61 rfl _ rfl (hcl _ _ _ _ (by omega) (by omega)) ?_)
    go_ret
    exact ⟨rfl, Z, hZH.out, hfin.out⟩

/-- slices.Delete of one element. -/
theorem delE (g n cap i base : Nat) (ii jj : Int) (xs : List Value) (w : World) (hown : w.ownsRow base 75 4 (.slice (some ⟨g, 0, none⟩) n cap) n xs) (hii : ii = i) (hjj : jj = (i : Int) + 1) (hi : i < n)
    (h1 : ∀ u ∈ xs, u.oneCell' = true) :
    Calls Try.prog 46 #[.slice (some ⟨g, 0, none⟩) n cap, .int .i64 ii, .int .i64 jj] w fun e w' =>
      e = .returned (.slice (some ⟨g, 0, none⟩) (n - 1) cap) ∧ w'.ownsRow base 75 4 (.slice (some ⟨g, 0, none⟩) (n - 1) cap) (n - 1) (xs.take (i * 4) ++ xs.drop (i * 4 + 4)) ∧ w.grownBy w' (some g) := by
  subst hii
  subst hjj
  have hl := hown.1
  rcases hown.2 with ⟨h, _⟩ | ⟨g', cap', cur, he, hb, hg, hnc, hcm, hcs, htake⟩
  · cases h
  · simp only [Value.slice.injEq, Option.some.injEq, Addr.mk.injEq, and_true, true_and] at he
    obtain ⟨rfl, rfl⟩ := he
    refine (delE_core g n cap i cur w hg hi hnc (by unfold maxLen at hcm; omega) hcs (by rw [htake]; exact h1)).mono ?_
    rintro e w' ⟨rfl, Z, hZ, rfl⟩
    have hlL : n * 4 ≤ cur.toList.length := by rw [Array.length_toList, hcs]; omega
    refine ⟨rfl, ⟨?_, .inr ⟨g, cap, _, rfl, hb, setRow_heap w.drew g cur _ 75 _ hg, by omega, hcm, ?_, ?_⟩⟩, ?_⟩
    · simp [hl]; omega
    · simp only [List.size_toArray]
      rw [del_len cur.toList Z (i * 4) 4 (n * 4) (by omega) hlL hZ, Array.length_toList, hcs]
    · have := del_list cur.toList Z (i * 4) 4 (n * 4) (by omega) hlL hZ
      rw [htake] at this
      rw [htake, show (n - 1) * 4 = n * 4 - 4 by omega]
      exact this
    · exact ⟨rfl, rfl, rfl, by rw [size_setRow]; exact Nat.le_refl _, fun k _ hk => setRow_other w.drew g k _ (fun e => hk (by rw [e]))⟩

end Go.Proofs.Qxb6001038a
