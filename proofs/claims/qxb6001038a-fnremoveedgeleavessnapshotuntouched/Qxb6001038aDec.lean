import Derived.Test.Qxb6001038aDel
namespace Go.Proofs.Qxb6001038a
open Go.RowKit
set_option linter.unusedVariables false

set_option maxHeartbeats 1000000 in
theorem delC_core (g n cap i : Nat) (cur : Array Value) (w : World) (hg : w.heap[g]? = some (.cells cur 29 (0, 0)))
    (hi : i < n) (hnc : n ≤ cap) (hcap : cap ≤ 9223372036854775807) (hcur : cur.size = cap) (h1 : ∀ u ∈ (cur.toList.take (n)), u.oneCell' = true) :
    Calls Try.prog 47 #[.slice (some ⟨g, 0, none⟩) n cap, .int .i64 i, .int .i64 ((i : Int) + 1)] w fun e w' =>
      e = .returned (.slice (some ⟨g, 0, none⟩) (n - 1) cap) ∧ ∃ Z : List Value, Z.length = 1 ∧
      w' = (w.drew.setRow g (splice (cur.toList.take (i) ++ ((cur.toList.take (n)).drop (i + 1) ++ cur.toList.drop (i + (n - (i + 1))))) (n - 1) Z).toArray) := by
  obtain ⟨i0, hi0, hz0, hz1, hz2⟩ := info_parts infoCh
  obtain ⟨X, hX⟩ : ∃ X, X = (cur.toList.take (n)).drop (i + 1) := ⟨_, rfl⟩
  have hXl : X.length = (n - (i + 1)) := by rw [hX, List.length_drop, List.length_take, Array.length_toList, hcur]; omega
  have hXs : ∀ j u, X[j]? = some u → w.drew.cell? ((⟨g, (i + 1), none⟩ : Addr).add j) = some u := by
    intro j u hj
    rw [hX, List.getElem?_drop, List.getElem?_take] at hj
    split at hj
    · rw [Addr.add_lit, show (i + 1) + j = i + 1 + j by omega]; exact (cell_of_row w g _ cur 29 (0, 0) hg).trans (by simpa using hj)
    · cases hj
  have hX1 : ∀ u ∈ X, u.oneCell' = true := fun u hu => h1 u (List.mem_of_mem_drop (by rw [hX] at hu; exact hu))
  obtain ⟨R1, hR1⟩ : ∃ R1, R1 = cur.toList.take (i) ++ (X ++ cur.toList.drop (i + (n - (i + 1)))) := ⟨_, rfl⟩
  have hR1l : R1.length = cap := by rw [hR1]; simp [hXl, hcur]; omega
  have hap : ∀ ty A c m, m = n - (i + 1) → (cap ≠ i + 1 → A = ⟨g, (i + 1), none⟩) → (Builtin.append_ #[62, 62] ty #[.slice (some ⟨g, 0, none⟩) i cap, .slice (some A) m c]).run Try.prog w.drew =
      .ok (.slice (some ⟨g, 0, none⟩) (n - 1) cap) (w.drew.setRow g R1.toArray) := fun ty A c m hm hA => by
    subst hm
    have h := run_append_room (P := Try.prog) w.drew 62 ty 29 i0 Try.underlying62 hi0 g i cap cur hg A (n - (i + 1)) c X (by rw [hXl, hz1, Nat.mul_one]) (fun j u hj => by
        by_cases hc : cap = i + 1
        · have : X.length = 0 := by rw [hXl]; omega
          rw [List.eq_nil_of_length_eq_zero this] at hj; cases hj
        · rw [hA hc]; exact hXs j u hj) hX1 (by omega) (by rw [hz1, hXl]; omega)
    rw [show i + (n - (i + 1)) = n - 1 by omega, hz1, Nat.mul_one] at h
    rw [h, hR1, hXl, List.append_assoc]
  obtain ⟨W1, hW1⟩ : ∃ W1, W1 = w.drew.setRow g R1.toArray := ⟨_, rfl⟩
  rw [← hW1] at hap
  have hg1 : W1.heap[g]? = some (.cells R1.toArray 29 (0, 0)) := by rw [hW1]; exact setRow_heap w.drew g cur _ 29 _ hg
  obtain ⟨Z, hZ⟩ : ∃ Z, Z = (Builtin.zeroCells (Value.pointer none).cells 1).toList := ⟨_, rfl⟩
  have hZl : Z.length = 1 := by rw [hZ, Array.length_toList, size_zeroCells]; rfl
  have hcl : ∀ ty c o l, o = (n - 1) → l = 1 → (Builtin.clear_ #[62] ty #[.slice (some ⟨g, o, none⟩) l c]).run Try.prog W1 = .ok (.tuple #[]) (W1.setRow g (splice R1 (n - 1) Z).toArray) := fun ty c o l ho hl => by
    subst ho
    subst hl
    have h := run_clearK (P := Try.prog) W1 62 ty 29 i0 (.pointer none) g ((n - 1)) 1 c R1.toArray 29 Try.underlying62 hi0 hz0 (by omega) hg1 (by show _ + 1 * 1 ≤ _; simp [hR1l]; omega) (by decide)
    rw [h, hZ, show (n - 1) = n - 1 by omega]
  have hfin : Hid (W1.setRow g (splice R1 (n - 1) Z).toArray = w.drew.setRow g (splice (cur.toList.take (i) ++ ((cur.toList.take (n)).drop (i + 1) ++ cur.toList.drop (i + (n - (i + 1))))) (n - 1) Z).toArray) := by
    unfold Hid
    rw [hW1, setRow_setRow, hR1, hX]
  have hZH := hide hZl
  have hself : Hid (n = i + 1 → W1 = w.drew) := by
    intro hn
    have hx : X = [] := List.eq_nil_of_length_eq_zero (by rw [hXl]; omega)
    have hr : R1 = cur.toList := by rw [hR1, hx, List.nil_append, show i + (n - (i + 1)) = i by omega, List.take_append_drop]
    rw [hW1, hr]
    exact setRow_self w.drew g cur 29 (0, 0) hg
  clear hX hXl hXs hX1 hR1 hR1l hW1 hg1 hZ hZl h1 hz0 hz1 hz2 hcur
  have hw1 : IntKind.i64.wrap ((i : Int) + 1) = (i : Int) + 1 := by rw [IntKind.wrap_i64]; omega
  have hb1 : (0 : Int) ≤ (i : Int) + 1 := by omega
  have htn : ((i : Int) + 1).toNat = i + 1 := by omega
  have hb3 : (i : Int) ≤ (n : Int) := by omega
  have hb4 : (i : Int) + 1 ≤ (n : Int) := by omega
  have hb6 : (i : Int) ≤ (cap : Int) := by omega
  have hb5 : ((i : Int) == (i : Int) + 1) = false := by rw [beq_eq_false_iff_ne]; omega
  by_cases hc : cap = i + 1
  · subst hc
    obtain rfl : n = i + 1 := by omega
    obtain rfl := hself.out rfl
    have hb7 : (i : Int) ≤ (i : Int) + 1 := by omega
    go_enter Try.func47, Try.ntmps47
    go_wp2
    go_region_law (fail)
    go_wp2_with (refine wpList_clear_run _ rfl _ 62 rfl _ rfl (hcl _ _ _ _ (by omega) (by omega)) ?_)
    go_ret
    exact ⟨rfl, Z, hZH.out, hfin.out⟩
  · go_enter Try.func47, Try.ntmps47
    go_wp2
    go_region_law (refine step_append_run rfl _ _ 62 62 rfl (.slice (some ⟨g, 0, none⟩) i cap) (.slice (some ⟨g, (i + 1), none⟩) (n - (i + 1)) (cap - (i + 1))) (by simp [Act.eval, Act.put]) (by simp [Act.eval, Act.put]) (hap _ _ _ _ rfl (fun _ => rfl)) ?_)
    go_wp2_with (refine wpList_clear_run _ rfl _ 62 rfl _ rfl (hcl _ _ _ _ (by omega) (by omega)) ?_)
    go_ret
    exact ⟨rfl, Z, hZH.out, hfin.out⟩

/-- slices.Delete of one element. -/
theorem delC (g n cap i base : Nat) (ii jj : Int) (xs : List Value) (w : World) (hown : w.ownsRow base 29 1 (.slice (some ⟨g, 0, none⟩) n cap) n xs) (hii : ii = i) (hjj : jj = (i : Int) + 1) (hi : i < n)
    (h1 : ∀ u ∈ xs, u.oneCell' = true) :
    Calls Try.prog 47 #[.slice (some ⟨g, 0, none⟩) n cap, .int .i64 ii, .int .i64 jj] w fun e w' =>
      e = .returned (.slice (some ⟨g, 0, none⟩) (n - 1) cap) ∧ w'.ownsRow base 29 1 (.slice (some ⟨g, 0, none⟩) (n - 1) cap) (n - 1) (xs.take (i) ++ xs.drop (i + 1)) ∧ w.grownBy w' (some g) := by
  subst hii
  subst hjj
  have hl := hown.1
  rcases hown.2 with ⟨h, _⟩ | ⟨g', cap', cur, he, hb, hg, hnc, hcm, hcs, htake⟩
  · cases h
  · simp only [Value.slice.injEq, Option.some.injEq, Addr.mk.injEq, and_true, true_and] at he
    obtain ⟨rfl, rfl⟩ := he
    simp only [Nat.mul_one] at hl hcs htake
    refine (delC_core g n cap i cur w hg hi hnc (by unfold maxLen at hcm; omega) hcs (by rw [htake]; exact h1)).mono ?_
    rintro e w' ⟨rfl, Z, hZ, rfl⟩
    have hlL : n ≤ cur.toList.length := by rw [Array.length_toList, hcs]; omega
    refine ⟨rfl, ⟨?_, .inr ⟨g, cap, _, rfl, hb, setRow_heap w.drew g cur _ 29 _ hg, by omega, hcm, ?_, ?_⟩⟩, ?_⟩
    · simp [hl]; omega
    · simp only [List.size_toArray]
      rw [del_len cur.toList Z (i) 1 (n) (by omega) hlL hZ, Array.length_toList, hcs, Nat.mul_one]
    · have := del_list cur.toList Z (i) 1 (n) (by omega) hlL hZ
      rw [htake] at this
      rw [htake, Nat.mul_one]
      exact this
    · exact ⟨rfl, rfl, rfl, by rw [size_setRow]; exact Nat.le_refl _, fun k _ hk => setRow_other w.drew g k _ (fun e => hk (by rw [e]))⟩

end Go.Proofs.Qxb6001038a
