import Derived.Test.Qxb6001695aL1
import Derived.Handy
import Derived.Laws.OwnMore
import Derived.Lib.SliceRun
import Derived.Deep.DrawnRows
import Derived.Deep.Cut
import Derived.Deep.RegionHeld
namespace Go.Proofs.Qxb6001695a
open Go.RowKit
set_option linter.unusedVariables false
set_option linter.unusedSimpArgs false
attribute [local go_sem ↓] Go.wp_at_zero Go.wp_at_succ

section
variable {w : World} {T g L : Nat} {x : Value}
theorem T_cells {b : Nat} {v0 v1 : Value} (h : w.heap[b]? = some (.cells #[v0, v1] 28 (0, 0))) : w.cell? ⟨b, 0, none⟩ = some v0 ∧ w.cell? ⟨b, 1, none⟩ = some v1 ∧ ∀ i, w.frozen? ⟨b, i, none⟩ = false :=
  ⟨by rw [cell_of_row w b 0 _ 28 _ h]; rfl, by rw [cell_of_row w b 1 _ 28 _ h]; rfl, fun i => frozen_of_row w b i _ 28 h⟩
end

/-- append(row, p...) where there is room. -/
theorem app_room (W : World) (ty : TypeId) (g L m cap pb off : Nat) (cur : Array Value) (ps : List UInt8) (hg : W.heap[g]? = some (.cells cur 5 (0, 0))) (hc : cur.size = 4096) (hm : ps.length = m) (hL : L + m ≤ 4096)
    (hsrc : ∀ j v, (encB ps)[j]? = some v → W.cell? ⟨pb, off + j, none⟩ = some v) :
    (Builtin.append_ #[26, 26] ty #[.slice (some ⟨g, 0, none⟩) L 4096, .slice (some ⟨pb, off, none⟩) m cap]).run Try.prog W =
      .ok (.slice (some ⟨g, 0, none⟩) (L + m) 4096) (W.setRow g (cur.toList.take L ++ encB ps ++ cur.toList.drop (L + m)).toArray) := by
  obtain ⟨i0, hi0, hz0, hz1, hz2⟩ := info_one info8
  have h := run_append_room (P := Try.prog) W 26 ty 5 i0 Try.underlying26 hi0 g L 4096 cur hg ⟨pb, off, none⟩ m cap (encB ps) (by rw [encB_len, hz1, hm, Nat.mul_one]) (fun j u hu => by rw [Addr.add_lit]; exact hsrc j u hu) (encB_one _) hL (by rw [hz1, encB_len, Nat.mul_one, hm, hc]; exact hL)
  rw [hz1, Nat.mul_one, encB_len, hm] at h
  exact h

/-- copy(row, row[k:]). -/
theorem copy_shift (W : World) (ty : TypeId) (g L k cap : Nat) (cur : Array Value) (bs : List UInt8) (hg : W.heap[g]? = some (.cells cur 5 (0, 0))) (hc : cur.size = 4096) (hL : bs.length = L) (hL4 : L ≤ 4096) (ht : cur.toList.take L = encB bs) (hk : k ≤ L) :
    (Builtin.copy_ #[26, 26] ty #[.slice (some ⟨g, 0, none⟩) L 4096, .slice (some ⟨g, k, none⟩) (L - k) cap]).run Try.prog W =
      .ok (goInt ((L - k : Nat) : Int)) (W.setRow g (encB (bs.drop k) ++ cur.toList.drop (L - k)).toArray) := by
  obtain ⟨i0, hi0, hz0, hz1, hz2⟩ := info_one info8
  have hl : (encB (bs.drop k)).length = L - k := by rw [encB_len, List.length_drop, hL]
  have h := run_copy_row (P := Try.prog) W 26 26 ty 5 g 0 L 4096 ⟨g, k, none⟩ (L - k) cap cur 5 (encB (bs.drop k)) Try.underlying26 (by rw [hi0]; simp [hz1]) hg (by rw [hl]; exact (Nat.min_eq_left (by omega)).symm) (fun j v hj => by
    rw [Addr.add_lit, cell_of_row W g _ cur 5 _ hg]
    rw [encB_drop, ← ht, List.getElem?_drop, List.getElem?_take] at hj
    split at hj
    · simpa using hj
    · cases hj) (by rw [hl]; omega) (encB_one _)
  rw [hl] at h
  simpa using h

theorem row_head {cur : Array Value} {bs ps : List UInt8} {L : Nat} (hc : cur.size = 4096) (hL : bs.length = L) (ht : cur.toList.take L = encB bs) (hl : L + ps.length ≤ 4096) :
    (cur.toList.take L ++ encB ps ++ cur.toList.drop (L + ps.length)).toArray.size = 4096 ∧ (cur.toList.take L ++ encB ps ++ cur.toList.drop (L + ps.length)).toArray.toList.take (bs ++ ps).length = encB (bs ++ ps) := by
  constructor
  · simp [encB_len, hc]; omega
  · rw [ht, ← encB_append, List.toList_toArray, List.take_append_of_le_length (by rw [encB_len]; omega), List.take_of_length_le (by rw [encB_len]; omega)]

/-- The last store. -/
theorem fin_write {w W2 : World} {T g n : Nat} {R : Array Value} {l : List UInt8} {tot : Nat} {v : Value} (hT : W2.heap[T]? = some (.cells #[v, .int .i64 tot] 28 (0, 0))) (hg : W2.heap[g]? = some (.cells R 5 (0, 0))) (hR : R.size = 4096) (hn : l.length = n) (hl : n ≤ 4096) (ht : R.toList.take l.length = encB l) (hgT : g ≠ T) (hF : Fr w W2 T g) :
    TailP (W2.setCell ⟨T, 0, none⟩ (.slice (some ⟨g, 0, none⟩) n 4096)) T g l tot ∧ Fr w (W2.setCell ⟨T, 0, none⟩ (.slice (some ⟨g, 0, none⟩) n 4096)) T g := by
  have h1 := heap_setCell_same W2 T 0 _ 28 (.slice (some ⟨g, 0, none⟩) n 4096) hT
  refine ⟨⟨by rw [h1, hn]; rfl, ⟨R, by rw [set_heap (by exact hgT)]; exact hg, hR, ht⟩, by omega⟩, hF.os, hF.tape, hF.output, Nat.le_trans hF.size (Nat.le_of_eq (World.size_setCell _ _ _).symm), fun b hb h2 h3 => ?_⟩
  rw [set_heap (by exact h2)]
  exact hF.block b hb h2 h3
theorem fr_set {w W : World} {T g k : Nat} {v : Value} (hF : Fr w W T g) : Fr w (W.setCell ⟨T, k, none⟩ v) T g :=
  ⟨hF.os, hF.tape, hF.output, Nat.le_trans hF.size (Nat.le_of_eq (World.size_setCell _ _ _).symm), fun b hb h2 h3 => by rw [set_heap (by exact h2)]; exact hF.block b hb h2 h3⟩
theorem fr_row {w W : World} {T g : Nat} {R : Array Value} (hF : Fr w W T g) : Fr w (W.setRow g R) T g :=
  ⟨hF.os, hF.tape, hF.output, Nat.le_trans hF.size (by simp [World.setRow]), fun b hb h2 h3 => by rw [setRow_other W g b R h3]; exact hF.block b hb h2 h3⟩
theorem fr_refl (w : World) (T g : Nat) : Fr w w T g := ⟨rfl, rfl, rfl, Nat.le_refl _, fun _ _ _ _ => rfl⟩

set_option maxHeartbeats 4000000 in
set_option maxRecDepth 100000 in
theorem write_sB1 (T g pb pcap tot : Nat) (bs ps : List UInt8) (w : World) (h : TailP w T g bs tot) (hgT : g ≠ T) (hpT : pb ≠ T) (hpg : pb ≠ g)
    (hsrc : ∀ j v, (encB ps)[j]? = some v → w.cell? ⟨pb, j, none⟩ = some v) (hps : ps.length ≤ 1048576) (htot : tot ≤ 1048576) (hcap : ps.length ≤ pcap) (hp4 : ps.length < 4096) (hov : bs.length + ps.length ≤ 4096) :
    Calls Try.prog 9 #[.pointer (some ⟨T, 0, none⟩), .slice (some ⟨pb, 0, none⟩) ps.length pcap] w fun e w' => e = .returned (.tuple #[.int .i64 ps.length, .nilIface]) ∧ TailP w' T g (tl (bs ++ ps)) (tot + ps.length) ∧ Fr w w' T g := by
  obtain ⟨hT, ⟨cur, hcur, hc4, hct⟩, hle⟩ := h
  obtain ⟨c0, c1, cf⟩ := T_cells hT
  have hgl := lt_of_heap hcur
  have q := fun (w : World) (a : Option Addr) (n c : Nat) => Lib.run_eql_slice_nil (P := Try.prog) w 26 5 a n c 0 0 Try.underlying26
  obtain ⟨m, hm⟩ : ∃ m, m = ps.length := ⟨_, rfl⟩
  obtain ⟨L, hL⟩ : ∃ L, bs.length = L := ⟨_, rfl⟩
  rw [hL] at c0 hle hct
  rw [hL] at hov
  rw [← hm] at hps hcap hp4 hov ⊢
  have hw1 : IntKind.i64.wrap ((tot : Int) + (m : Int)) = (tot : Int) + (m : Int) := by rw [IntKind.wrap_i64]; omega
  have t1 : ¬ ((4096 : Int) ≤ (m : Int)) := by omega
  have t2 : ¬ ((0 : Int) < (L : Int) + (m : Int) - 4096) := by omega
  have hw2 : IntKind.i64.wrap ((L : Int) + (m : Int)) = (L : Int) + (m : Int) := by rw [IntKind.wrap_i64]; omega
  have hw3 : IntKind.i64.wrap ((L : Int) + (m : Int) - 4096) = (L : Int) + (m : Int) - 4096 := by rw [IntKind.wrap_i64]; omega
  obtain ⟨W1, hW1⟩ : ∃ W1, W1 = w.setCell ⟨T, 1, none⟩ (.int .i64 ((tot : Int) + (m : Int))) := ⟨_, rfl⟩
  have hg1 : W1.heap[g]? = some (.cells cur 5 (0, 0)) := by rw [hW1, set_heap (by exact hgT)]; exact hcur
  have hT1 : W1.heap[T]? = some (.cells #[.slice (some ⟨g, 0, none⟩) bs.length 4096, .int .i64 ((tot + m : Nat) : Int)] 28 (0, 0)) := by rw [hW1]; exact heap_setCell_same w T 1 _ 28 _ hT
  have hF1 : Fr w W1 T g := by rw [hW1]; exact fr_set (fr_refl w T g)
  have hap := fun ty => app_room W1 ty g L m pcap pb 0 cur ps hg1 hc4 hm.symm (by omega) (fun j v hj => by rw [hW1, Nat.zero_add, World.cell?_setCell_far _ _ _ _ (Ne.symm hpT)]; exact hsrc j v hj)
  obtain ⟨R, hR⟩ : ∃ R, R = (cur.toList.take L ++ encB ps ++ cur.toList.drop (L + m)).toArray := ⟨_, rfl⟩
  obtain ⟨W2, hW2⟩ : ∃ W2, W2 = W1.setRow g R := ⟨_, rfl⟩
  rw [← hR, ← hW2] at hap
  have hg2 : W2.heap[g]? = some (.cells R 5 (0, 0)) := by rw [hW2]; exact setRow_heap W1 g cur _ 5 _ hg1
  have hT2 : W2.heap[T]? = some (.cells #[.slice (some ⟨g, 0, none⟩) bs.length 4096, .int .i64 ((tot + m : Nat) : Int)] 28 (0, 0)) := by rw [hW2, setRow_other W1 g T R (Ne.symm hgT)]; exact hT1
  have hF2 : Fr w W2 T g := by rw [hW2]; exact fr_row hF1
  obtain ⟨d0, d1, df⟩ := T_cells hT2
  rw [hL] at d0
  obtain ⟨hR1, hR2⟩ : R.size = 4096 ∧ R.toList.take (bs ++ ps).length = encB (bs ++ ps) := by rw [hR, hm]; exact row_head hc4 hL hct (by omega)
  have htl : tl (bs ++ ps) = bs ++ ps := by unfold tl; rw [show (bs ++ ps).length - 4096 = 0 by rw [List.length_append]; omega]; rfl
  have hfin := fin_write (n := L + m) hT2 hg2 hR1 (by rw [List.length_append, hL, hm]) (by omega) hR2 hgT hF2
  rw [htl]
  rw [hW1] at hap
  have hapH := hide hap; have hfinH := hide hfin
  clear hap hfin hW1 hW2 hR hg1 hT1 hF1 hg2 hT2 hF2 hR1 hR2 htl hT hcur hct hm hL hc4 hsrc d1
  go_enter Try.func9, Try.ntmps9
  go_wp2_with (first | (at_builtin; refine wpList_append_run _ rfl _ _ 26 26 rfl _ _ rfl rfl (hapH.out _) ?_))
  go_ret2
  exact ⟨rfl, hfinH.out⟩

set_option maxHeartbeats 4000000 in
set_option maxRecDepth 100000 in
theorem write_sA (T g pb pcap tot : Nat) (bs ps : List UInt8) (w : World) (h : TailP w T g bs tot) (hgT : g ≠ T) (hpT : pb ≠ T) (hpg : pb ≠ g)
    (hsrc : ∀ j v, (encB ps)[j]? = some v → w.cell? ⟨pb, j, none⟩ = some v) (hps : ps.length ≤ 1048576) (htot : tot ≤ 1048576) (hcap : ps.length ≤ pcap) (hp4 : 4096 ≤ ps.length) :
    Calls Try.prog 9 #[.pointer (some ⟨T, 0, none⟩), .slice (some ⟨pb, 0, none⟩) ps.length pcap] w fun e w' => e = .returned (.tuple #[.int .i64 ps.length, .nilIface]) ∧ TailP w' T g (tl (bs ++ ps)) (tot + ps.length) ∧ Fr w w' T g := by
  obtain ⟨hT, ⟨cur, hcur, hc4, hct⟩, hle⟩ := h
  obtain ⟨c0, c1, cf⟩ := T_cells hT
  have hgl := lt_of_heap hcur
  have q := fun (w : World) (a : Option Addr) (n c : Nat) => Lib.run_eql_slice_nil (P := Try.prog) w 26 5 a n c 0 0 Try.underlying26
  obtain ⟨m, hm⟩ : ∃ m, m = ps.length := ⟨_, rfl⟩
  obtain ⟨L, hL⟩ : ∃ L, bs.length = L := ⟨_, rfl⟩
  rw [hL] at c0 hle hct
  rw [← hm] at hps hcap hp4 ⊢
  have hw1 : IntKind.i64.wrap ((tot : Int) + (m : Int)) = (tot : Int) + (m : Int) := by rw [IntKind.wrap_i64]; omega
  obtain ⟨k, hk⟩ : ∃ k, m = k + 4096 := ⟨m - 4096, by omega⟩
  subst hk
  have hw4 : IntKind.i64.wrap ((k : Int) + 4096 - 4096) = k := by rw [show ((k : Int) + 4096 - 4096) = k by omega, IntKind.wrap_i64]; omega
  have t1 : ((4096 : Int) ≤ (k : Int) + 4096) := by omega
  have t3 : (0 : Int) ≤ (k : Int) := by omega
  have t4 : (k : Int) ≤ (k : Int) + 4096 := by omega
  obtain ⟨W0, hW0⟩ : ∃ W0, W0 = w.setCell ⟨T, 1, none⟩ (.int .i64 ((tot : Int) + ((k + 4096 : Nat) : Int))) := ⟨_, rfl⟩
  obtain ⟨W1, hW1⟩ : ∃ W1, W1 = W0.setCell ⟨T, 0, none⟩ (.slice (some ⟨g, 0, none⟩) 0 4096) := ⟨_, rfl⟩
  have hT0 : W0.heap[T]? = some (.cells #[.slice (some ⟨g, 0, none⟩) bs.length 4096, .int .i64 ((tot + (k + 4096) : Nat) : Int)] 28 (0, 0)) := by rw [hW0]; exact heap_setCell_same w T 1 _ 28 _ hT
  have hg1 : W1.heap[g]? = some (.cells cur 5 (0, 0)) := by rw [hW1, hW0, set_heap (by exact hgT), set_heap (by exact hgT)]; exact hcur
  have hT1 : W1.heap[T]? = some (.cells #[.slice (some ⟨g, 0, none⟩) 0 4096, .int .i64 ((tot + (k + 4096) : Nat) : Int)] 28 (0, 0)) := by rw [hW1]; exact heap_setCell_same W0 T 0 _ 28 _ hT0
  have hF1 : Fr w W1 T g := by rw [hW1, hW0]; exact fr_set (fr_set (fr_refl w T g))
  have hap := fun ty cp => app_room W1 ty g 0 4096 cp pb k cur (ps.drop k) hg1 hc4 (by simp; omega) (by omega) (fun j v hj => by
    rw [hW1, hW0, World.cell?_setCell_far _ _ _ _ (Ne.symm hpT), World.cell?_setCell_far _ _ _ _ (Ne.symm hpT)]
    rw [encB_drop, List.getElem?_drop] at hj
    exact hsrc (k + j) v hj)
  obtain ⟨R, hR⟩ : ∃ R, R = (cur.toList.take 0 ++ encB (ps.drop k) ++ cur.toList.drop (0 + 4096)).toArray := ⟨_, rfl⟩
  obtain ⟨W2, hW2⟩ : ∃ W2, W2 = W1.setRow g R := ⟨_, rfl⟩
  rw [← hR, ← hW2] at hap
  have hg2 : W2.heap[g]? = some (.cells R 5 (0, 0)) := by rw [hW2]; exact setRow_heap W1 g cur _ 5 _ hg1
  have hT2 : W2.heap[T]? = some (.cells #[.slice (some ⟨g, 0, none⟩) 0 4096, .int .i64 ((tot + (k + 4096) : Nat) : Int)] 28 (0, 0)) := by rw [hW2, setRow_other W1 g T R (Ne.symm hgT)]; exact hT1
  have hF2 : Fr w W2 T g := by rw [hW2]; exact fr_row hF1
  obtain ⟨d0, d1, df⟩ := T_cells hT2
  have hpl : (ps.drop k).length = 4096 := by rw [List.length_drop]; omega
  obtain ⟨hR1, hR2⟩ : R.size = 4096 ∧ R.toList.take (ps.drop k).length = encB (ps.drop k) := by
    have := row_head (cur := cur) (bs := []) (ps := ps.drop k) (L := 0) hc4 rfl rfl (by omega)
    rw [hpl] at this
    rw [hR, hpl]
    simpa [hpl] using this
  have htl : tl (bs ++ ps) = ps.drop k := by unfold tl; rw [List.drop_append, List.drop_of_length_le (by rw [List.length_append]; omega), List.nil_append, List.length_append]; congr 1; omega
  have hfin := fin_write (n := 4096) hT2 hg2 hR1 hpl (by omega) hR2 hgT hF2
  rw [htl]
  rw [hW1, hW0] at hap
  simp only [Nat.zero_add] at hap
  have hapH := hide hap; have hfinH := hide hfin
  clear hap hfin hW1 hW2 hR hg1 hT1 hF1 hg2 hT2 hF2 hR1 hR2 htl hT hcur hct hm hL hc4 hsrc d1 hT0 hW0 hpl
  go_enter Try.func9, Try.ntmps9
  go_wp2_with (first | (at_builtin; refine wpList_append_run _ rfl _ _ 26 26 rfl _ _ rfl rfl (hapH.out _ _) ?_))
  go_ret2
  exact ⟨rfl, hfinH.out⟩

set_option maxHeartbeats 4000000 in
set_option maxRecDepth 100000 in
theorem write_sB2 (T g pb pcap tot : Nat) (bs ps : List UInt8) (w : World) (h : TailP w T g bs tot) (hgT : g ≠ T) (hpT : pb ≠ T) (hpg : pb ≠ g)
    (hsrc : ∀ j v, (encB ps)[j]? = some v → w.cell? ⟨pb, j, none⟩ = some v) (hps : ps.length ≤ 1048576) (htot : tot ≤ 1048576) (hcap : ps.length ≤ pcap) (hp4 : ps.length < 4096) (hov : 4096 < bs.length + ps.length) :
    Calls Try.prog 9 #[.pointer (some ⟨T, 0, none⟩), .slice (some ⟨pb, 0, none⟩) ps.length pcap] w fun e w' => e = .returned (.tuple #[.int .i64 ps.length, .nilIface]) ∧ TailP w' T g (tl (bs ++ ps)) (tot + ps.length) ∧ Fr w w' T g := by
  obtain ⟨hT, ⟨cur, hcur, hc4, hct⟩, hle⟩ := h
  obtain ⟨c0, c1, cf⟩ := T_cells hT
  have hgl := lt_of_heap hcur
  have q := fun (w : World) (a : Option Addr) (n c : Nat) => Lib.run_eql_slice_nil (P := Try.prog) w 26 5 a n c 0 0 Try.underlying26
  obtain ⟨m, hm⟩ : ∃ m, m = ps.length := ⟨_, rfl⟩
  obtain ⟨L, hL⟩ : ∃ L, bs.length = L := ⟨_, rfl⟩
  rw [hL] at c0 hle hct
  rw [hL] at hov
  rw [← hm] at hps hcap hp4 hov ⊢
  have hw1 : IntKind.i64.wrap ((tot : Int) + (m : Int)) = (tot : Int) + (m : Int) := by rw [IntKind.wrap_i64]; omega
  obtain ⟨k, hk⟩ : ∃ k, L + m = k + 4096 := ⟨L + m - 4096, by omega⟩
  obtain ⟨n, hn⟩ : ∃ n, L = k + n := ⟨L - k, by omega⟩
  have hk0 : 0 < k := by omega
  have hn0 : 0 < n := by omega
  have t1 : ¬ ((4096 : Int) ≤ (m : Int)) := by omega
  have t2 : (0 : Int) < (k : Int) := by omega
  subst hn
  have hw2 : IntKind.i64.wrap ((k : Int) + (n : Int) + (m : Int)) = (k : Int) + (n : Int) + (m : Int) := by rw [IntKind.wrap_i64]; omega
  have hw3 : IntKind.i64.wrap ((k : Int) + (n : Int) + (m : Int) - 4096) = k := by rw [show ((k : Int) + (n : Int) + (m : Int) - 4096) = k by omega, IntKind.wrap_i64]; omega
  have t3 : (0 : Int) ≤ (k : Int) := by omega
  have t4 : (k : Int) ≤ (k : Int) + (n : Int) := by omega
  have t5 : (n : Int) ≤ 4096 := by omega
  have t6 : (0 : Int) ≤ (n : Int) := by omega
  have t7 : ¬ (4096 = k) := by omega
  obtain ⟨W0, hW0⟩ : ∃ W0, W0 = w.setCell ⟨T, 1, none⟩ (.int .i64 ((tot : Int) + (m : Int))) := ⟨_, rfl⟩
  have hT0 : W0.heap[T]? = some (.cells #[.slice (some ⟨g, 0, none⟩) bs.length 4096, .int .i64 ((tot + m : Nat) : Int)] 28 (0, 0)) := by rw [hW0]; exact heap_setCell_same w T 1 _ 28 _ hT
  have hg0 : W0.heap[g]? = some (.cells cur 5 (0, 0)) := by rw [hW0, set_heap (by exact hgT)]; exact hcur
  have hcp := fun ty cp => copy_shift W0.drew ty g (k + n) k cp cur bs hg0 hc4 hL (by omega) hct (by omega)
  rw [Nat.add_sub_cancel_left] at hcp
  obtain ⟨cur2, hcur2⟩ : ∃ cur2, cur2 = (encB (bs.drop k) ++ cur.toList.drop n).toArray := ⟨_, rfl⟩
  obtain ⟨W3, hW3⟩ : ∃ W3, W3 = W0.drew.setRow g cur2 := ⟨_, rfl⟩
  rw [← hcur2, ← hW3] at hcp
  have hbk : (bs.drop k).length = n := by rw [List.length_drop, hL]; omega
  have hc42 : cur2.size = 4096 := by rw [hcur2]; simp [encB_len, hc4, hbk]; omega
  have hct2 : cur2.toList.take n = encB (bs.drop k) := by rw [hcur2, List.toList_toArray, List.take_append_of_le_length (by rw [encB_len, hbk]; exact Nat.le_refl _), List.take_of_length_le (by rw [encB_len, hbk]; exact Nat.le_refl _)]
  have hg3 : W3.heap[g]? = some (.cells cur2 5 (0, 0)) := by rw [hW3]; exact setRow_heap W0.drew g cur _ 5 _ hg0
  have hT3 : W3.heap[T]? = some (.cells #[.slice (some ⟨g, 0, none⟩) bs.length 4096, .int .i64 ((tot + m : Nat) : Int)] 28 (0, 0)) := by rw [hW3, setRow_other W0.drew g T cur2 (Ne.symm hgT)]; exact hT0
  obtain ⟨e0, e1, ef⟩ := T_cells hT3
  rw [hL] at e0
  obtain ⟨W1, hW1⟩ : ∃ W1, W1 = W3.setCell ⟨T, 0, none⟩ (.slice (some ⟨g, 0, none⟩) n 4096) := ⟨_, rfl⟩
  have hg1 : W1.heap[g]? = some (.cells cur2 5 (0, 0)) := by rw [hW1, set_heap (by exact hgT)]; exact hg3
  have hT1 : W1.heap[T]? = some (.cells #[.slice (some ⟨g, 0, none⟩) n 4096, .int .i64 ((tot + m : Nat) : Int)] 28 (0, 0)) := by rw [hW1]; exact heap_setCell_same W3 T 0 _ 28 _ hT3
  have hFd : Fr w W0.drew T g := by rw [hW0]; exact ⟨rfl, rfl, rfl, (fr_set (k := 1) (v := .int .i64 ((tot : Int) + (m : Int))) (fr_refl w T g)).size, (fr_set (k := 1) (v := .int .i64 ((tot : Int) + (m : Int))) (fr_refl w T g)).block⟩
  have hF1 : Fr w W1 T g := by rw [hW1, hW3]; exact fr_set (fr_row hFd)
  have hap := fun ty => app_room W1 ty g n m pcap pb 0 cur2 ps hg1 hc42 hm.symm (by omega) (fun j v hj => by
    rw [hW1, hW3, Nat.zero_add, World.cell?_setCell_far _ _ _ _ (Ne.symm hpT), World.cell?_of_block (a := ⟨pb, j, none⟩) (setRow_other W0.drew g pb cur2 hpg)]
    show W0.cell? ⟨pb, j, none⟩ = some v
    rw [hW0, World.cell?_setCell_far _ _ _ _ (Ne.symm hpT)]
    exact hsrc j v hj)
  obtain ⟨R, hR⟩ : ∃ R, R = (cur2.toList.take n ++ encB ps ++ cur2.toList.drop (n + m)).toArray := ⟨_, rfl⟩
  obtain ⟨W2, hW2⟩ : ∃ W2, W2 = W1.setRow g R := ⟨_, rfl⟩
  rw [← hR, ← hW2] at hap
  have hg2 : W2.heap[g]? = some (.cells R 5 (0, 0)) := by rw [hW2]; exact setRow_heap W1 g cur2 _ 5 _ hg1
  have hT2 : W2.heap[T]? = some (.cells #[.slice (some ⟨g, 0, none⟩) n 4096, .int .i64 ((tot + m : Nat) : Int)] 28 (0, 0)) := by rw [hW2, setRow_other W1 g T R (Ne.symm hgT)]; exact hT1
  have hF2 : Fr w W2 T g := by rw [hW2]; exact fr_row hF1
  obtain ⟨d0, d1, df⟩ := T_cells hT2
  obtain ⟨hR1, hR2⟩ : R.size = 4096 ∧ R.toList.take (bs.drop k ++ ps).length = encB (bs.drop k ++ ps) := by rw [hR, hm]; exact row_head hc42 hbk hct2 (by omega)
  have htl : tl (bs ++ ps) = bs.drop k ++ ps := by
    unfold tl
    rw [List.drop_append, show (bs ++ ps).length - 4096 = k by rw [List.length_append, hL]; omega, show k - bs.length = 0 by rw [hL]; omega]
    rfl
  have hfin := fin_write (n := n + m) hT2 hg2 hR1 (by rw [List.length_append, hbk, hm]) (by omega) hR2 hgT hF2
  rw [htl]
  rw [hW1] at hap
  rw [hW0] at hcp
  have hapH := hide hap; have hfinH := hide hfin; have hcpH := hide hcp
  clear hap hfin hcp hW1 hW2 hR hg1 hT1 hF1 hg2 hT2 hF2 hR1 hR2 htl hT hcur hct hm hL hc4 hsrc d1 hT0 hW0 hcur2 hW3 hbk hc42 hct2 hg3 hT3 e1 hFd hk hg0
  go_enter Try.func9, Try.ntmps9
  go_upto_region 10 with fail
  go_region_law (refine step_copy_run (by rfl) _ _ 26 26 (by rfl) (.slice (some ⟨g, 0, none⟩) (k + n) 4096) (.slice (some ⟨g, k, none⟩) n (4096 - k)) (by simp [Act.eval, Act.put]) (by simp [Act.eval, Act.put, t7]) (hcpH.out _ _) ?_)
  all_goals (go_wp2_with (first | (at_builtin; refine wpList_append_run _ rfl _ _ 26 26 rfl _ _ rfl rfl (hapH.out _) ?_)))
  all_goals go_ret2
  all_goals exact ⟨rfl, hfinH.out⟩

set_option maxHeartbeats 4000000 in
set_option maxRecDepth 100000 in
theorem write_nB1 (T  pb pcap tot : Nat) (ps : List UInt8) (w : World) (hT : w.heap[T]? = some (.cells #[.slice none 0 0, .int .i64 tot] 28 (0, 0))) (hpT : pb ≠ T) (hpl : pb < w.heap.size)
    (hsrc : ∀ j v, (encB ps)[j]? = some v → w.cell? ⟨pb, j, none⟩ = some v) (hps : ps.length ≤ 1048576) (htot : tot ≤ 1048576) (hcap : ps.length ≤ pcap) (hp4 : ps.length < 4096) (hov : ps.length ≤ 4096) :
    Calls Try.prog 9 #[.pointer (some ⟨T, 0, none⟩), .slice (some ⟨pb, 0, none⟩) ps.length pcap] w fun e w' => e = .returned (.tuple #[.int .i64 ps.length, .nilIface]) ∧ TailP w' T w.heap.size (tl (ps)) (tot + ps.length) ∧ Fr w w' T w.heap.size := by
  have hTl := lt_of_heap hT
  obtain ⟨c0, c1, cf⟩ := T_cells hT
  have q := fun (w : World) (a : Option Addr) (n c : Nat) => Lib.run_eql_slice_nil (P := Try.prog) w 26 5 a n c 0 0 Try.underlying26
  obtain ⟨m, hm⟩ : ∃ m, m = ps.length := ⟨_, rfl⟩
  obtain ⟨E, hE⟩ : ∃ E, E = w.heap.size := ⟨_, rfl⟩
  rw [← hm] at hps hcap hp4 hov ⊢
  have hw1 : IntKind.i64.wrap ((tot : Int) + (m : Int)) = (tot : Int) + (m : Int) := by rw [IntKind.wrap_i64]; omega
  have t1 : ¬ ((4096 : Int) ≤ (m : Int)) := by omega
  have t2 : ¬ ((0 : Int) < (m : Int) - 4096) := by omega
  have hw3 : IntKind.i64.wrap ((m : Int) - 4096) = (m : Int) - 4096 := by rw [IntKind.wrap_i64]; omega
  have hw5 : IntKind.i64.wrap (m : Int) = (m : Int) := by rw [IntKind.wrap_i64]; omega
  obtain ⟨i0, hi0, hz0, hz1, hz2⟩ := info_one info8
  have hmk := fun w => run_make (P := Try.prog) w 26 5 i0 (.int .u8 0) Try.underlying26 hi0 hz0 .i64 .i64 0 4096 (by omega) (by omega) (by rw [hz2]; decide) (by omega)
  rw [hz1] at hmk
  obtain ⟨cur, hcd⟩ : ∃ cur, cur = madeCells (Value.int .u8 0).cells ((4096 : Int).toNat * 1) := ⟨_, rfl⟩
  rw [← hcd] at hmk
  have hc4 : cur.size = 4096 := by
    rw [hcd]
    show (madeCells #[Value.int .u8 0] 4096).size = 4096
    have := congrArg List.length (toList_madeCells_one (Value.int .u8 0) 4096)
    simpa using this
  have e1 : Int.toNat 0 = 0 := rfl
  have e2 : Int.toNat 4096 = 4096 := rfl
  simp only [e1, e2] at hmk
  clear e1 e2
  have hgT : w.heap.size ≠ T := by omega
  obtain ⟨W0, hW0⟩ : ∃ W0, W0 = (w.setCell ⟨T, 1, none⟩ (.int .i64 ((tot : Int) + ((m : Nat) : Int)))).alloc (.cells cur 5) := ⟨_, rfl⟩
  obtain ⟨W1, hW1⟩ : ∃ W1, W1 = W0.setCell ⟨T, 0, none⟩ (.slice (some ⟨w.heap.size, 0, none⟩) 0 4096) := ⟨_, rfl⟩
  have hsz : (w.setCell ⟨T, 1, none⟩ (.int .i64 ((tot : Int) + ((m : Nat) : Int)))).heap.size = w.heap.size := World.size_setCell _ _ _
  have hT0 : W0.heap[T]? = some (.cells #[.slice none 0 0, .int .i64 ((tot + m : Nat) : Int)] 28 (0, 0)) := by rw [hW0, Below.heap_alloc _ _ T (by rw [hsz]; exact hTl)]; exact heap_setCell_same w T 1 _ 28 _ hT
  have hg0 : W0.heap[w.heap.size]? = some (.cells cur 5 (0, 0)) := by rw [hW0]; have := heap_alloc_new (w.setCell ⟨T, 1, none⟩ (.int .i64 ((tot : Int) + ((m : Nat) : Int)))) (.cells cur 5); rwa [hsz] at this
  have hg1 : W1.heap[w.heap.size]? = some (.cells cur 5 (0, 0)) := by rw [hW1, set_heap (by exact hgT)]; exact hg0
  have hT1 : W1.heap[T]? = some (.cells #[.slice (some ⟨w.heap.size, 0, none⟩) 0 4096, .int .i64 ((tot + m : Nat) : Int)] 28 (0, 0)) := by rw [hW1]; exact heap_setCell_same W0 T 0 _ 28 _ hT0
  have hF0 : Fr w W0 T w.heap.size := by
    rw [hW0]
    refine ⟨rfl, rfl, rfl, by simp, fun b hb h2 h3 => ?_⟩
    rw [Below.heap_alloc _ _ b (by rw [hsz]; exact hb), set_heap (by exact h2)]
  have hF1 : Fr w W1 T w.heap.size := by rw [hW1]; exact fr_set hF0
  have hcw : ∀ j, W1.cell? ⟨pb, j, none⟩ = w.cell? ⟨pb, j, none⟩ := fun j => by
    skip
    rw [hW1, World.cell?_setCell_far _ _ _ _ (Ne.symm hpT)]
    exact World.cell?_of_block (a := ⟨pb, j, none⟩) (hF0.block pb hpl hpT (by omega))
  have hap := fun ty => app_room W1 ty w.heap.size 0 m pcap pb 0 cur (ps) hg1 hc4 hm.symm (by omega) (fun j v hj => by
    rw [hcw]
    rw [Nat.zero_add]
    exact hsrc j v hj)
  obtain ⟨R, hR⟩ : ∃ R, R = (cur.toList.take 0 ++ encB (ps) ++ cur.toList.drop (0 + m)).toArray := ⟨_, rfl⟩
  obtain ⟨W2, hW2⟩ : ∃ W2, W2 = W1.setRow w.heap.size R := ⟨_, rfl⟩
  rw [← hR, ← hW2] at hap
  have hg2 : W2.heap[w.heap.size]? = some (.cells R 5 (0, 0)) := by rw [hW2]; exact setRow_heap W1 w.heap.size cur _ 5 _ hg1
  have hT2 : W2.heap[T]? = some (.cells #[.slice (some ⟨w.heap.size, 0, none⟩) 0 4096, .int .i64 ((tot + m : Nat) : Int)] 28 (0, 0)) := by rw [hW2, setRow_other W1 w.heap.size T R (Ne.symm hgT)]; exact hT1
  have hF2 : Fr w W2 T w.heap.size := by rw [hW2]; exact fr_row hF1
  obtain ⟨d0, d1, df⟩ := T_cells hT2
  have hpl2 : (ps).length = m := by exact hm.symm
  obtain ⟨hR1, hR2⟩ : R.size = 4096 ∧ R.toList.take (ps).length = encB (ps) := by
    have := row_head (cur := cur) (bs := []) (ps := ps) (L := 0) hc4 rfl rfl (by omega)
    rw [hpl2] at this
    rw [hR, hpl2]
    simpa [hpl2] using this
  have htl : tl ps = ps := by unfold tl; rw [show ps.length - 4096 = 0 by omega]; rfl
  have hfin := fin_write (n := m) hT2 hg2 hR1 hpl2 (by omega) hR2 hgT hF2
  rw [htl]
  have hgz := hsz
  rw [hW1, hW0] at hap
  simp only [Nat.zero_add] at hap
  rw [World.setCell_alloc_past (hn := by rw [World.size_setCell]; exact hTl)] at hap
  obtain ⟨f0, f1, ff⟩ := T_cells hT0
  rw [hW0] at f0 ff
  have hapH := hide hap; have hfinH := hide hfin
  clear hap hfin hW1 hW2 hR hg1 hT1 hF1 hg2 hT2 hF2 hR1 hR2 htl hT hm hc4 hsrc d1 hT0 hW0 hpl2 hcd hi0 hz0 hz1 hz2 hg0 hF0 hcw f1 hE
  go_enter Try.func9, Try.ntmps9
  go_wp2_with (first | (at_builtin; refine wpList_append_run _ rfl _ _ 26 26 rfl _ _ rfl rfl (hapH.out _) ?_))
  go_ret2
  exact ⟨rfl, hfinH.out⟩

set_option maxHeartbeats 4000000 in
set_option maxRecDepth 100000 in
theorem write_nA (T  pb pcap tot : Nat) (ps : List UInt8) (w : World) (hT : w.heap[T]? = some (.cells #[.slice none 0 0, .int .i64 tot] 28 (0, 0))) (hpT : pb ≠ T) (hpl : pb < w.heap.size)
    (hsrc : ∀ j v, (encB ps)[j]? = some v → w.cell? ⟨pb, j, none⟩ = some v) (hps : ps.length ≤ 1048576) (htot : tot ≤ 1048576) (hcap : ps.length ≤ pcap) (hp4 : 4096 ≤ ps.length) :
    Calls Try.prog 9 #[.pointer (some ⟨T, 0, none⟩), .slice (some ⟨pb, 0, none⟩) ps.length pcap] w fun e w' => e = .returned (.tuple #[.int .i64 ps.length, .nilIface]) ∧ TailP w' T w.heap.size (tl (ps)) (tot + ps.length) ∧ Fr w w' T w.heap.size := by
  have hTl := lt_of_heap hT
  obtain ⟨c0, c1, cf⟩ := T_cells hT
  have q := fun (w : World) (a : Option Addr) (n c : Nat) => Lib.run_eql_slice_nil (P := Try.prog) w 26 5 a n c 0 0 Try.underlying26
  obtain ⟨m, hm⟩ : ∃ m, m = ps.length := ⟨_, rfl⟩
  obtain ⟨E, hE⟩ : ∃ E, E = w.heap.size := ⟨_, rfl⟩
  rw [← hm] at hps hcap hp4 ⊢
  have hw1 : IntKind.i64.wrap ((tot : Int) + (m : Int)) = (tot : Int) + (m : Int) := by rw [IntKind.wrap_i64]; omega
  obtain ⟨k, hk⟩ : ∃ k, m = k + 4096 := ⟨m - 4096, by omega⟩
  subst hk
  have hw4 : IntKind.i64.wrap ((k : Int) + 4096 - 4096) = k := by rw [show ((k : Int) + 4096 - 4096) = k by omega, IntKind.wrap_i64]; omega
  have t1 : ((4096 : Int) ≤ (k : Int) + 4096) := by omega
  have t3 : (0 : Int) ≤ (k : Int) := by omega
  have t4 : (k : Int) ≤ (k : Int) + 4096 := by omega
  obtain ⟨i0, hi0, hz0, hz1, hz2⟩ := info_one info8
  have hmk := fun w => run_make (P := Try.prog) w 26 5 i0 (.int .u8 0) Try.underlying26 hi0 hz0 .i64 .i64 0 4096 (by omega) (by omega) (by rw [hz2]; decide) (by omega)
  rw [hz1] at hmk
  obtain ⟨cur, hcd⟩ : ∃ cur, cur = madeCells (Value.int .u8 0).cells ((4096 : Int).toNat * 1) := ⟨_, rfl⟩
  rw [← hcd] at hmk
  have hc4 : cur.size = 4096 := by
    rw [hcd]
    show (madeCells #[Value.int .u8 0] 4096).size = 4096
    have := congrArg List.length (toList_madeCells_one (Value.int .u8 0) 4096)
    simpa using this
  have e1 : Int.toNat 0 = 0 := rfl
  have e2 : Int.toNat 4096 = 4096 := rfl
  simp only [e1, e2] at hmk
  clear e1 e2
  obtain ⟨g, hgd⟩ : ∃ g, g = w.heap.size := ⟨_, rfl⟩
  have hgT : g ≠ T := by omega
  obtain ⟨W0, hW0⟩ : ∃ W0, W0 = ((w.setCell ⟨T, 1, none⟩ (.int .i64 ((tot : Int) + ((k : Int) + 4096)))).setCell ⟨T, 0, none⟩ (.slice (some ⟨w.heap.size, 0, none⟩) 0 4096)).alloc (.cells cur 5) := ⟨_, rfl⟩
  have hsz : ((w.setCell ⟨T, 1, none⟩ (.int .i64 ((tot : Int) + ((k : Int) + 4096)))).setCell ⟨T, 0, none⟩ (.slice (some ⟨w.heap.size, 0, none⟩) 0 4096)).heap.size = w.heap.size := by rw [World.size_setCell, World.size_setCell]
  have hT0 : W0.heap[T]? = some (.cells #[.slice (some ⟨g, 0, none⟩) 0 4096, .int .i64 ((tot + (k + 4096) : Nat) : Int)] 28 (0, 0)) := by
    rw [hW0, Below.heap_alloc _ _ T (by rw [hsz]; exact hTl), hgd]
    exact heap_setCell_same _ T 0 _ 28 _ (heap_setCell_same w T 1 _ 28 _ hT)
  have hg0 : W0.heap[g]? = some (.cells cur 5 (0, 0)) := by rw [hW0, hgd]; have := heap_alloc_new ((w.setCell ⟨T, 1, none⟩ (.int .i64 ((tot : Int) + ((k : Int) + 4096)))).setCell ⟨T, 0, none⟩ (.slice (some ⟨w.heap.size, 0, none⟩) 0 4096)) (.cells cur 5); rwa [hsz] at this
  have hF0 : Fr w W0 T g := by
    rw [hW0]
    refine ⟨rfl, rfl, rfl, by simp, fun b hb h2 h3 => ?_⟩
    rw [Below.heap_alloc _ _ b (by rw [hsz]; exact hb), set_heap (by exact h2), set_heap (by exact h2)]
  obtain ⟨W1, hW1⟩ : ∃ W1, W1 = W0.setCell ⟨T, 0, none⟩ (.slice (some ⟨g, 0, none⟩) 0 4096) := ⟨_, rfl⟩
  have hg1 : W1.heap[g]? = some (.cells cur 5 (0, 0)) := by rw [hW1, set_heap (by exact hgT)]; exact hg0
  have hT1 : W1.heap[T]? = some (.cells #[.slice (some ⟨g, 0, none⟩) 0 4096, .int .i64 ((tot + (k + 4096) : Nat) : Int)] 28 (0, 0)) := by rw [hW1]; exact heap_setCell_same W0 T 0 _ 28 _ hT0
  have hF1 : Fr w W1 T g := by rw [hW1]; exact fr_set hF0
  have hap := fun ty cp => app_room W1 ty g 0 4096 cp pb k cur (ps.drop k) hg1 hc4 (by simp; omega) (by omega) (fun j v hj => by
    rw [encB_drop, List.getElem?_drop] at hj
    rw [World.cell?_of_block (a := ⟨pb, k + j, none⟩) (hF1.block pb hpl hpT (by omega))]
    exact hsrc (k + j) v hj)
  obtain ⟨R, hR⟩ : ∃ R, R = (cur.toList.take 0 ++ encB (ps.drop k) ++ cur.toList.drop (0 + 4096)).toArray := ⟨_, rfl⟩
  obtain ⟨W2, hW2⟩ : ∃ W2, W2 = W1.setRow g R := ⟨_, rfl⟩
  rw [← hR, ← hW2] at hap
  have hg2 : W2.heap[g]? = some (.cells R 5 (0, 0)) := by rw [hW2]; exact setRow_heap W1 g cur _ 5 _ hg1
  have hT2 : W2.heap[T]? = some (.cells #[.slice (some ⟨g, 0, none⟩) 0 4096, .int .i64 ((tot + (k + 4096) : Nat) : Int)] 28 (0, 0)) := by rw [hW2, setRow_other W1 g T R (Ne.symm hgT)]; exact hT1
  have hF2 : Fr w W2 T g := by rw [hW2]; exact fr_row hF1
  obtain ⟨d0, d1, df⟩ := T_cells hT2
  have hpl2 : (ps.drop k).length = 4096 := by rw [List.length_drop]; omega
  obtain ⟨hR1, hR2⟩ : R.size = 4096 ∧ R.toList.take (ps.drop k).length = encB (ps.drop k) := by
    have := row_head (cur := cur) (bs := []) (ps := ps.drop k) (L := 0) hc4 rfl rfl (by omega)
    rw [hpl2] at this
    rw [hR, hpl2]
    simpa [hpl2] using this
  have htl : tl ps = ps.drop k := by unfold tl; congr 1; omega
  have hfin := fin_write (n := 4096) hT2 hg2 hR1 hpl2 (by omega) hR2 hgT hF2
  rw [htl]
  rw [hW1] at hap
  simp only [Nat.zero_add] at hap
  obtain ⟨f0, f1, ff⟩ := T_cells hT0
  have hapH := hide hap; have hfinH := hide hfin; have hW0H := hide hW0
  clear hap hfin hW0 hW1 hW2 hR hg1 hT1 hF1 hg2 hT2 hF2 hR1 hR2 htl hT hm hc4 hsrc d1 hT0 hpl2 hcd hi0 hz0 hz1 hz2 hg0 hF0 f1 hE hsz
  have hgdH := hide hgd
  rw [← hgd]
  clear hgd
  go_enter Try.func9, Try.ntmps9
  go_upto_region 5 with fail
  rw [← hW0H.out]
  clear hmk c0 c1 cf hW0H
  rw [← hgdH.out]
  go_wp2_with (first | (at_builtin; refine wpList_append_run _ rfl _ _ 26 26 rfl _ _ rfl rfl (hapH.out _ _) ?_))
  go_ret2
  exact ⟨rfl, hfinH.out⟩


end Go.Proofs.Qxb6001695a
