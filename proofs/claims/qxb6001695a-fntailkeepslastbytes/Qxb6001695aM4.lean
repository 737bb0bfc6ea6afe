import Derived.Test.Qxb6001695aL4
import Derived.Deep.Cut
import Derived.Deep.Light
import Derived.BigQuiet
namespace Go.Proofs.Qxb6001695a
open Go.RowKit
set_option linter.unusedVariables false
set_option linter.unusedSimpArgs false
attribute [local go_sem ↓] Go.wp_at_zero Go.wp_at_succ

theorem total_any {N0 len : Nat} {p : Option Addr} {c : Nat} {S : Nat → ByteArray} {w : World} (h : Strs N0 w S len p c) (hl : len + tot S len ≤ 1048576) :
    Calls Try.prog 8 #[.slice p len c] w fun e w' => e = .returned (.int .i64 (tot S len)) ∧ w' = w := by
  rcases h with ⟨rfl, rfl, rfl⟩ | ⟨C, cs, rfl, h2, h3, h4⟩
  · exact total_n S w
  · exact total_r ⟨C, 0, none⟩ len c S w hl (fun i hi => by
      rw [Addr.add_lit, Nat.zero_add, cell_of_row w C i cs 9 _ h3]
      exact h4 i hi)

set_option maxHeartbeats 4000000 in
set_option maxRecDepth 100000 in
theorem split_walk (a : Option Addr) (len cap : Nat) (S : Nat → ByteArray) (w : World) (h : IsStrs w a len cap S) :
    Calls Try.prog 4 #[.slice a len cap] w fun e w' => e = .returned (.bool true) ∧ Below w.heap.size w w' := by
  have hlen := strs_len h
  have hby := hide (bytes11 a len cap S w h)
  by_cases h4 : len ≤ 4096
  · have t1 : ¬ ((4096 : Int) < (len : Int)) := by omega
    have hcs := hide (csize a len cap S w h (by omega))
    have hcl := hide (clone_any a len cap S w h (by omega))
    clear h
    go_enter Try.func4, Try.ntmps4
    go_wp2_with (first
      | (go_at_call 11; refine hby.out.mono ?_; rintro e w ⟨b, rfl, rfl, hbt⟩)
      | (go_at_call 6; refine hcs.out.mono ?_; rintro e w ⟨n6, rfl, rfl⟩)
      | (go_at_call 7; refine hcl.out.mono ?_; rintro e W0 ⟨p, c, rfl, hB0, hS0⟩; have hS0' := hide (show Strs w.heap.size W0 S len p c from hS0); clear hS0))
    all_goals first
      | (go_ret; exact ⟨rfl, Below.refl _ _⟩)
      | skip
    have hbd : len + tot S len ≤ 1048576 := hbt (by cases b <;> simp_all)
    clear hbt hby hcs hcl
    have hszW : w.heap.size ≤ W0.heap.size := hB0.size
    have hS1 : Strs w.heap.size (W0.alloc (.cells #[.slice none 0 0, .int .i64 0] 28)) S len p c := hS0'.out.keep (fun b cs hb => by rw [Below.heap_alloc _ _ b (lt_of_heap hb)]; exact hb)
    have htt := hide (total_any hS1 hbd)
    obtain ⟨TL, hTL⟩ : ∃ TL, TL = tot S len := ⟨_, rfl⟩
    rw [← hTL] at htt
    obtain ⟨i0, hi0, hz0, hz1, hz2⟩ := info_one info8
    have hmk := fun w => run_make (P := Try.prog) w 26 5 i0 (.int .u8 0) Try.underlying26 hi0 hz0 .i64 .i64 0 (TL : Int) (by omega) (by omega) (by rw [hz2]; omega) (by omega)
    rw [hz1] at hmk
    obtain ⟨cur0, hcd⟩ : ∃ cur, cur = madeCells (Value.int .u8 0).cells ((TL : Int).toNat * 1) := ⟨_, rfl⟩
    rw [← hcd] at hmk
    have hc0 : cur0.size = TL := by
      rw [hcd]
      show (madeCells #[Value.int .u8 0] (TL * 1)).size = TL
      have := congrArg List.length (toList_madeCells_one (Value.int .u8 0) (TL * 1))
      simpa using this
    have e1 : Int.toNat 0 = 0 := rfl
    have e2 : Int.toNat (TL : Int) = TL := rfl
    simp only [e1, e2] at hmk
    clear e1 e2 hcd hi0 hz0 hz1 hz2
    have hTLH := hide hTL; have hc0H := hide hc0; have hB0H := hide hB0; have hS1H := hide hS1
    have hTLb : TL ≤ 1048576 := by omega
    clear hTL hc0 hB0 hS1 hS0'
    go_wp2_with (first | (go_at_call 8; refine htt.out.mono ?_; rintro e w9 ⟨rfl, rfl⟩))
    have hA0 : ((W0.alloc (.cells #[.slice none 0 0, .int .i64 0] 28)).alloc (.cells cur0 5)).heap[W0.heap.size]? = some (.cells #[.slice none 0 0, .int .i64 0] 28 (0, 0)) := heap_alloc2_old W0 _ _
    have hG0 : ((W0.alloc (.cells #[.slice none 0 0, .int .i64 0] 28)).alloc (.cells cur0 5)).heap[W0.heap.size + 1]? = some (.cells cur0 5 (0, 0)) := heap_alloc2_new W0 _ _
    have hLI0 : LI w.heap.size w S len p c W0.heap.size (W0.heap.size + 1) 0 none ((W0.alloc (.cells #[.slice none 0 0, .int .i64 0] 28)).alloc (.cells cur0 5)) := by
      refine ⟨(hB0H.out.alloc hszW _).alloc (by simp; omega) _, hS1H.out.keep (fun b cs hb => by rw [Below.heap_alloc _ _ b (lt_of_heap hb)]; exact hb), .inl ⟨rfl, rfl, hA0⟩, (by simp), (fun g e => by cases e), ⟨cur0, hG0, by rw [hc0H.out, hTLH.out], rfl⟩, hszW, by omega⟩
    have hLI0H := hide hLI0
    obtain ⟨A, hAd⟩ : ∃ A, A = W0.heap.size := ⟨_, rfl⟩
    have hAH := hide hAd
    clear hLI0 hA0 hG0 htt hmk hS1H hB0H
    go_loopw [4, 5] (fun v4 v5 wr => ∃ k : Nat, k ≤ len ∧ v4 = .slice (some ⟨W0.heap.size + 1, 0, none⟩) (tot S k) TL ∧ v5 = .int .i64 k ∧ Hid (∃ row, LI w.heap.size w S len p c W0.heap.size (W0.heap.size + 1) k row wr)) (fun v4 v5 _ => len - (intOf v5).toNat)
    case atStart => exact ⟨0, by omega, rfl, rfl, hide ⟨none, hLI0H.out⟩⟩
    case round =>
      obtain ⟨k, hk, rfl, rfl, hI⟩ := hrel
      by_cases hlt : k < len
      · obtain ⟨row, hLI⟩ := hI.out
        clear hI hLI0H
        have hstr := hLI.str
        rcases hstr with ⟨_, h0, _⟩ | ⟨C, cs, rfl, hCN, hCb, hCs⟩
        · omega
        have ck := hLI.str.cell hlt
        obtain ⟨W1, cp, hcv, hcp, hPut, hfz⟩ := put_bytes wr (S k)
        have hm1 := tot_mono S (k + 1) len (by omega)
        have hm2 : tot S k + (S k).size ≤ TL := by rw [hTLH.out]; exact hm1
        obtain ⟨vA, hvA⟩ := hLI.ts.blk
        have hAl := lt_of_heap hvA
        obtain ⟨cur, hcur, hc1, hc2⟩ := hLI.whole
        have hGl := lt_of_heap hcur
        have hNr : w.heap.size ≤ wr.heap.size := by omega
        have hTS1 : TS W1 W0.heap.size row (tl (cat S k)) (tot S k) := hLI.ts.keep (hPut.old _ hAl) (fun g e => by
          obtain ⟨cg, hcg⟩ := hLI.ts.row_tag e
          exact hPut.old g (lt_of_heap hcg))
        have hrp : row ≠ some wr.heap.size := fun e => by
          obtain ⟨cg, hcg⟩ := hLI.ts.row_tag e
          have := lt_of_heap hcg
          omega
        have hwr := write_any W0.heap.size wr.heap.size cp (tot S k) row (tl (cat S k)) (S k).data.toList (S k).size W1 rfl hTS1 (by omega) (by rw [hPut.size]; omega) hrp hPut.src (by omega) (by omega) hcp
        obtain ⟨N, hN⟩ : ∃ N, N = tot S k := ⟨_, rfl⟩
        have hkeep : Hid (∀ W2 g, TS W2 W0.heap.size (some g) (tl (tl (cat S k) ++ (S k).data.toList)) (tot S k + (S k).size) → (row = some g ∨ (row = none ∧ g = W1.heap.size)) → Fr W1 W2 W0.heap.size g →
            W2.cell? ⟨C, k, none⟩ = some (.string (S k)) ∧ (∀ ty, (Builtin.append_ #[26, 9] ty #[.slice (some ⟨W0.heap.size + 1, 0, none⟩) N TL, .string (S k)]).run Try.prog W2 = .ok (.slice (some ⟨W0.heap.size + 1, 0, none⟩) (N + (S k).size) TL) (W2.setRow (W0.heap.size + 1) (cur.toList.take (tot S k) ++ ((S k).data.toList.map fun b => Value.int .u8 (b.toNat : Int)) ++ cur.toList.drop (tot S k + (S k).size)).toArray)) ∧
            LI w.heap.size w S len (some ⟨C, 0, none⟩) c W0.heap.size (W0.heap.size + 1) (k + 1) (some g) (W2.setRow (W0.heap.size + 1) (cur.toList.take (tot S k) ++ ((S k).data.toList.map fun b => Value.int .u8 (b.toNat : Int)) ++ cur.toList.drop (tot S k + (S k).size)).toArray)) := fun W2 g hT hg hF => by
          have hCg : C ≠ g := by
            rcases hg with e | ⟨_, e⟩
            · obtain ⟨cg, hcg⟩ := hLI.ts.row_tag e
              exact heap_ne hCb hcg (by decide)
            · have := lt_of_heap hCb
              rw [e, hPut.size]; omega
          have hGg : W0.heap.size + 1 ≠ g := by
            rcases hg with e | ⟨_, e⟩
            · exact fun e' => hLI.rG (by rw [e, e'])
            · rw [e, hPut.size]; omega
          have hC2 : W2.heap[C]? = some (.cells cs 9 (0, 0)) := by rw [hF.block C (by rw [hPut.size]; have := lt_of_heap hCb; omega) (heap_ne hCb hvA (by decide)) hCg, hPut.old C (lt_of_heap hCb)]; exact hCb
          have hG2 : W2.heap[W0.heap.size + 1]? = some (.cells cur 5 (0, 0)) := by rw [hF.block _ (by rw [hPut.size]; omega) (by omega) hGg, hPut.old _ hGl]; exact hcur
          refine ⟨by rw [cell_of_row W2 C k cs 9 _ hC2]; exact hCs k hlt, fun ty => ?_, hLI.step hlt hPut hNr hT hg hF hG2 hc1 hc2⟩
          obtain ⟨i0, hi0, hz0, hz1, hz2⟩ := info_one info8
          rw [hN]
          exact run_append_string_room W2 26 9 ty 5 i0 Try.underlying26 Try.underlying9 hi0 hz1 (W0.heap.size + 1) (tot S k) TL cur hG2 (S k) hm2 (by rw [hc1, ← hTLH.out]; exact hm2)
        rw [← hN]
        have hwrH := hide hwr; have hNH := hide hN
        have hlt' : (k : Int) < (len : Int) := by omega
        have hzz : (((S k).size : Int) != ((S k).size : Int)) = false := by simp
        clear hwr hLI hPut hfz hTS1 hrp hcur hc1 hc2 hvA hCb hCs hN hm1
        go_wp2_with (first
          | (go_at_call 9; refine hwrH.out.mono ?_; rintro e W2 ⟨rfl, g, hT2, hg2, hF2⟩; obtain ⟨ck2, hap, hLI2⟩ := hkeep.out W2 g hT2 hg2 hF2; have hLI2H := hide hLI2; clear hLI2 hT2 hg2 hF2)
          | (at_builtin; refine wpList_append_run _ rfl _ _ 26 9 rfl _ _ rfl rfl (hap _) ?_))
        go_roundw
        case rel => exact ⟨k + 1, by omega, by rw [hNH.out]; rfl, by go_num, hide ⟨some g, by rw [← List.append_assoc]; exact hLI2H.out⟩⟩
        case measure => simp [intOf]; omega
      · obtain rfl : k = len := by omega
        obtain ⟨WE, rfl⟩ : ∃ WE, WE = wr := ⟨_, rfl⟩
        obtain ⟨row, hLI⟩ := hI.out
        clear hI hLI0H
        obtain ⟨D, hD⟩ : ∃ D, D = tl (cat S k) := ⟨_, rfl⟩
        have hts := hLI.ts
        rw [← hD] at hts
        obtain ⟨cur, hcur, hc1, hc2⟩ := hLI.whole
        have hGl := lt_of_heap hcur
        have hcatl : (cat S k).length = TL := by rw [cat_len, hTLH.out]
        have hbel := hLI.bel
        have hNr : w.heap.size ≤ WE.heap.size := hbel.size
        -- the one row
        obtain ⟨i0, hi0, hz0, hz1, hz2⟩ := info_one info8
        have hmk := run_make_row' (P := Try.prog) 26 5 (.int .u8 0) 1 Try.underlying26 info8 rfl .i64 .i64 TL (by omega) (by omega)
        obtain ⟨cur1, hcd⟩ : ∃ cur, cur = madeCells #[Value.int .u8 0] TL := ⟨_, rfl⟩
        rw [← hcd] at hmk
        have hs1 : cur1.size = TL := by
          rw [hcd]
          have := congrArg List.length (toList_madeCells_one (Value.int .u8 0) TL)
          simpa using this
        obtain ⟨W1, hW1⟩ : ∃ W1, W1 = (WE.alloc (.cells #[.slice none 0 0, .int .i64 0] 28)).alloc (.cells cur1 5) := ⟨_, rfl⟩
        have hW1s : W1.heap.size = WE.heap.size + 2 := by rw [hW1]; simp
        have hO1 : W1.heap[WE.heap.size + 1]? = some (.cells cur1 5 (0, 0)) := by rw [hW1]; exact heap_alloc2_new WE _ _
        have hB1 : W1.heap[WE.heap.size]? = some (.cells #[.slice none 0 0, .int .i64 0] 28 (0, 0)) := by rw [hW1]; exact heap_alloc2_old WE _ _
        have hold1 : ∀ b, b < WE.heap.size → W1.heap[b]? = WE.heap[b]? := fun b hb => by rw [hW1, Below.heap_alloc _ _ b (by simp; omega), Below.heap_alloc _ _ b hb]
        have hcp := fun ty => run_copy_row (P := Try.prog) W1 26 26 ty 5 (WE.heap.size + 1) 0 TL TL ⟨W0.heap.size + 1, 0, none⟩ TL TL cur1 5 (encB (cat S k)) Try.underlying26 (by rw [hi0]; simp [hz1]) hO1 (by rw [encB_len, hcatl]; exact (Nat.min_self _).symm) (fun j v hj => by
          rw [Addr.add_lit, Nat.zero_add, cell_of_row W1 _ j cur 5 _ ((hold1 _ hGl).trans hcur)]
          have hjl := (List.getElem?_eq_some_iff.1 hj).1
          rw [encB_len, cat_len] at hjl
          rw [← hc2, List.getElem?_take, if_pos hjl] at hj
          simpa using hj) (by rw [encB_len, hcatl, hs1]; omega) (encB_one _)
        obtain ⟨R, hR⟩ : ∃ R, R = (cur1.toList.take 0 ++ encB (cat S k) ++ cur1.toList.drop (0 + (encB (cat S k)).length)).toArray := ⟨_, rfl⟩
        obtain ⟨W2, hW2⟩ : ∃ W2, W2 = W1.setRow (WE.heap.size + 1) R := ⟨_, rfl⟩
        rw [← hR, ← hW2, encB_len, hcatl] at hcp
        have hW2s : W2.heap.size = WE.heap.size + 2 := by rw [hW2]; simp [World.setRow, hW1s]
        have hold2 : ∀ b, b < WE.heap.size → W2.heap[b]? = WE.heap[b]? := fun b hb => by rw [hW2, setRow_other W1 _ b R (by omega)]; exact hold1 b hb
        have hB2 : W2.heap[WE.heap.size]? = some (.cells #[.slice none 0 0, .int .i64 0] 28 (0, 0)) := by rw [hW2, setRow_other W1 _ _ R (by omega)]; exact hB1
        have hO2 : W2.heap[WE.heap.size + 1]? = some (.cells R 5 (0, 0)) := by rw [hW2]; exact setRow_heap W1 _ cur1 _ 5 _ hO1
        have hwr := write_any WE.heap.size (WE.heap.size + 1) TL 0 none [] (cat S k) TL W2 hcatl (.inl ⟨rfl, rfl, hB2⟩) (by omega) (by omega) (by simp) (fun j v hj => by
          rw [cell_of_row W2 _ j R 5 _ hO2, hR]
          have hjl := (List.getElem?_eq_some_iff.1 hj).1
          simp only [List.take_zero, List.nil_append, List.getElem?_toArray]
          rw [List.getElem?_append_left hjl]
          exact hj) hTLb (by omega) (Nat.le_refl _)
        rw [List.nil_append, ← hD] at hwr
        -- the first tail, as it reads
        obtain ⟨dl, hdl⟩ : ∃ dl, dl = D.length := ⟨_, rfl⟩
        have hdl4 : dl ≤ 4096 := by rw [hdl, hD, tl_len]; omega
        obtain ⟨pa, ca, hAc, hAr⟩ : ∃ pa ca, WE.heap[W0.heap.size]? = some (.cells #[.slice pa dl ca, .int .i64 (TL : Int)] 28 (0, 0)) ∧ (0 < dl → ∃ ga cc, pa = some ⟨ga, 0, none⟩ ∧ WE.heap[ga]? = some (.cells cc 5 (0, 0)) ∧ ∀ j, j < dl → cc[j]? = (encB D)[j]?) := by
          rcases hts with ⟨_, h2, h3⟩ | ⟨ga, h1, h2, h3⟩
          · refine ⟨none, 0, ?_, fun h => ?_⟩
            · rw [h3, hdl, h2, hTLH.out]; rfl
            · rw [hdl, h2] at h; simp at h
          · obtain ⟨cc, c1, c2, c3⟩ := h2.row
            refine ⟨some ⟨ga, 0, none⟩, 4096, by rw [h2.blk, hdl, hTLH.out], fun _ => ⟨ga, cc, rfl, c1, fun j hj => ?_⟩⟩
            rw [← c3, List.getElem?_take, if_pos (by omega)]
            simp
        have hAl := lt_of_heap hAc
        have hfin : Hid (∀ W3 g, TS W3 WE.heap.size (some g) D (0 + TL) → g = W2.heap.size → Fr W2 W3 WE.heap.size g →
            W3.cell? ⟨W0.heap.size, 0, none⟩ = some (.slice pa dl ca) ∧ W3.cell? ⟨W0.heap.size, 1, none⟩ = some (.int .i64 (TL : Int)) ∧ W3.cell? ⟨WE.heap.size, 0, none⟩ = some (.slice (some ⟨g, 0, none⟩) dl 4096) ∧ W3.cell? ⟨WE.heap.size, 1, none⟩ = some (.int .i64 (TL : Int)) ∧
            (∀ j, j < dl → ∃ ga z, pa = some ⟨ga, 0, none⟩ ∧ W3.cell? ⟨ga, j, none⟩ = some (.int .u8 z) ∧ W3.cell? ⟨g, j, none⟩ = some (.int .u8 z)) ∧ Below w.heap.size w W3) := fun W3 g hT hg hF => by
          have hold3 : ∀ b, b < WE.heap.size → W3.heap[b]? = WE.heap[b]? := fun b hb => (hF.block b (by omega) (by omega) (by omega)).trans (hold2 b hb)
          have hA3 := T_cells ((hold3 _ hAl).trans hAc)
          rcases hT with ⟨h1, _⟩ | ⟨g', h1, h2, h3⟩
          · cases h1
          cases h1
          have hB3 := T_cells h2.blk
          rw [Nat.zero_add, ← hdl] at hB3
          obtain ⟨cc, c1, c2, c3⟩ := h2.row
          refine ⟨hA3.1, hA3.2.1, hB3.1, hB3.2.1, fun j hj => ?_, hbel.trans ⟨?_, ?_, ?_, ?_, fun b hb => hold3 b (by omega)⟩⟩
          · obtain ⟨ga, cca, a1, a2, a3⟩ := hAr (by omega)
            obtain ⟨u, hu⟩ : ∃ u, D[j]? = some u := ⟨D[j]'(by omega), List.getElem?_eq_getElem (by omega)⟩
            have hej : (encB D)[j]? = some (.int .u8 (u.toNat : Int)) := by simp [encB, hu]
            refine ⟨ga, (u.toNat : Int), a1, ?_, ?_⟩
            · rw [cell_of_row W3 ga j cca 5 _ ((hold3 ga (lt_of_heap a2)).trans a2), a3 j hj]
              exact hej
            · rw [cell_of_row W3 g j cc 5 _ c1, ← hej, ← c3, List.getElem?_take, if_pos (by omega)]
              simp
          · exact hF.os.trans (by rw [hW2, hW1]; rfl)
          · exact hF.tape.trans (by rw [hW2, hW1]; rfl)
          · exact hF.output.trans (by rw [hW2, hW1]; rfl)
          · have := hF.size; omega
        have hwrH := hide hwr
        rw [hW1] at hcp
        have hcpH := hide hcp
        clear hwr hcp hLI hts hcur hc1 hc2 hcatl hbel hcd hs1 hW1 hO1 hB1 hold1 hR hW2 hold2 hB2 hO2 hAc hAr hi0 hz0 hz1 hz2 hD hdl
        have hz9 : ((TL : Int) != (TL : Int)) = false := by simp
        have hz8 : ((dl : Int) != (dl : Int)) = false := by simp
        rw [← hTLH.out]
        go_wp2_with (first
          | (refine wpList_copy_run _ rfl _ _ 26 26 rfl _ _ rfl rfl (hcpH.out _) ?_)
          | (go_at_call 9; refine hwrH.out.mono ?_; rintro e W3 ⟨rfl, g, hT3, hg3, hF3⟩; obtain ⟨k1, k2, k3, k4, k5, k6⟩ := hfin.out W3 g hT3 (by rcases hg3 with e | e; cases e; exact e.2) hF3; have k5H := hide k5; clear hT3 hg3 hF3 k5)
          | (go_at_call_of 12 (Value.pointer (some ⟨W0.heap.size, 0, none⟩)); refine (tbytes W0.heap.size _ _ k1).mono ?_; rintro e W3 ⟨rfl, rfl⟩)
          | (go_at_call 12; refine (tbytes WE.heap.size _ _ k3).mono ?_; rintro e W3 ⟨rfl, rfl⟩))
        have k1H := hide k1; have k2H := hide k2; have k3H := hide k3; have k4H := hide k4; have k6H := hide k6
        clear k1 k2 k3 k4 k6 hwrH hcpH hfin hmk
        go_loopw [15] (fun j wr => ∃ i : Nat, i ≤ dl ∧ j = .int .i64 i ∧ Hid (Below w.heap.size w wr ∧ wr.heap = W3.heap)) (fun j _ => dl - (intOf j).toNat)
        case atStart => exact ⟨0, by omega, rfl, hide ⟨k6H.out, rfl⟩⟩
        case round =>
          obtain ⟨i, hi, rfl, hJ⟩ := hrel
          by_cases hil : i < dl
          · obtain ⟨ga, z, rfl, z1, z2⟩ := k5H.out i hil
            have c1 : wr.cell? ⟨ga, i, none⟩ = some (.int .u8 z) := (World.cell?_of_block (a := ⟨ga, i, none⟩) (by rw [hJ.out.2])).trans z1
            have c2 : wr.cell? ⟨g, i, none⟩ = some (.int .u8 z) := (World.cell?_of_block (a := ⟨g, i, none⟩) (by rw [hJ.out.2])).trans z2
            have hb1 : (i : Int) < (dl : Int) := by omega
            have hzz : (z != z) = false := by simp
            clear z1 z2
            go_upto_region 31 with fail
            go_quiet (fail)
            go_wp2_with fail
            go_roundw
            case rel => exact ⟨i + 1, by omega, by go_num, hide ⟨hJ.out.1.trans ⟨rfl, rfl, rfl, Nat.le_refl _, fun _ _ => rfl⟩, hJ.out.2⟩⟩
            case measure => simp [intOf]; omega
          · obtain rfl : i = dl := by omega
            have c2 : wr.cell? ⟨W0.heap.size, 1, none⟩ = some (.int .i64 (TL : Int)) := (World.cell?_of_block (a := ⟨W0.heap.size, 1, none⟩) (by rw [hJ.out.2])).trans k2H.out
            have c4 : wr.cell? ⟨WE.heap.size, 1, none⟩ = some (.int .i64 (TL : Int)) := (World.cell?_of_block (a := ⟨WE.heap.size, 1, none⟩) (by rw [hJ.out.2])).trans k4H.out
            have hz7 : ((TL : Int) == (TL : Int)) = true := by simp
            go_wp2_with (first
              | (go_at_call_of 13 (Value.pointer (some ⟨W0.heap.size, 0, none⟩)); refine (twritten W0.heap.size _ _ c2).mono ?_; rintro e wr ⟨rfl, rfl⟩)
              | (go_at_call 13; refine (twritten WE.heap.size _ _ c4).mono ?_; rintro e wr ⟨rfl, rfl⟩))
            go_ret
            exact ⟨rfl, hJ.out.1⟩
  · have t1 : ((4096 : Int) < (len : Int)) := by omega
    clear h
    go_enter Try.func4, Try.ntmps4
    go_wp2_with (first
      | (go_at_call 11; refine hby.out.mono ?_; rintro e w ⟨b, rfl, rfl, hbt⟩))
    all_goals (go_ret; exact ⟨rfl, Below.refl _ _⟩)
end Go.Proofs.Qxb6001695a
