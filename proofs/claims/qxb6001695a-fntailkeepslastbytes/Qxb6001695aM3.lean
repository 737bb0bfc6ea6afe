import Derived.Test.Qxb6001695aM2
namespace Go.Proofs.Qxb6001695a
open Go.RowKit
set_option linter.unusedVariables false
set_option linter.unusedSimpArgs false
attribute [local go_sem ↓] Go.wp_at_zero Go.wp_at_succ

set_option maxHeartbeats 4000000 in
set_option maxRecDepth 100000 in
theorem keeps_walk (a : Option Addr) (len cap : Nat) (S : Nat → ByteArray) (w : World) (h : IsStrs w a len cap S) :
    Calls Try.prog 3 #[.slice a len cap] w fun e w' => e = .returned (.bool true) ∧ Below w.heap.size w w' := by
  have hlen := strs_len h
  have hby := hide (bytes5 a len cap S w h)
  by_cases h4 : len ≤ 4096
  · have t1 : ¬ ((4096 : Int) < (len : Int)) := by omega
    have hcs := hide (csize a len cap S w h (by omega))
    have hcl := hide (clone_any a len cap S w h (by omega))
    clear h
    go_enter Try.func3, Try.ntmps3
    go_wp2_with (first
      | (go_at_call 5; refine hby.out.mono ?_; rintro e w ⟨b, rfl, rfl, hbt⟩)
      | (go_at_call 6; refine hcs.out.mono ?_; rintro e w ⟨n6, rfl, rfl⟩)
      | (go_at_call 7; refine hcl.out.mono ?_; rintro e W0 ⟨p, c, rfl, hB0, hS0⟩; have hS0' := hide (show Strs w.heap.size W0 S len p c from hS0); clear hS0))
    all_goals first
      | (go_ret; exact ⟨rfl, Below.refl _ _⟩)
      | skip
    have hbd : len + tot S len ≤ 1048576 := hbt (by cases b <;> simp_all)
    clear hbt hby hcs hcl
    have hszW : w.heap.size ≤ W0.heap.size := hB0.size
    have hS1 : Strs w.heap.size W0 S len p c := hS0'.out
    have htt := hide (total_any hS1 hbd)
    obtain ⟨TL, hTL⟩ : ∃ TL, TL = tot S len := ⟨_, rfl⟩
    rw [← hTL] at htt
    obtain ⟨i0, hi0, hz0, hz1, hz2⟩ := info_one info8
    have hmk := fun w => run_make (P := Try.prog) w 26 5 i0 (.int .u8 0) Try.underlying26 hi0 hz0 .i64 .i64 0 (TL : Int) (by omega) (by omega) (by rw [hz2]; omega) (by omega)
    rw [hz1] at hmk
    obtain ⟨cur0, hcd⟩ : ∃ cur, cur = madeCells (Value.int .u8 0).cells ((TL : Int).toNat * 1) := ⟨_, rfl⟩
    rw [← hcd] at hmk
    have hc0 : cur0.size = TL := by
      rw [hcd]
      show (madeCells #[Value.int .u8 0] (TL * 1)).size = TL
      have := congrArg List.length (toList_madeCells_one (Value.int .u8 0) (TL * 1))
      simpa using this
    have e1 : Int.toNat 0 = 0 := rfl
    have e2 : Int.toNat (TL : Int) = TL := rfl
    simp only [e1, e2] at hmk
    clear e1 e2 hcd hi0 hz0 hz1 hz2
    have hTLH := hide hTL; have hc0H := hide hc0; have hB0H := hide hB0; have hS1H := hide hS1
    have hTLb : TL ≤ 1048576 := by omega
    clear hTL hc0 hB0 hS1 hS0'
    go_wp2_with (first | (go_at_call 8; refine htt.out.mono ?_; rintro e W0 ⟨rfl, rfl⟩))
    have hA0 : ((W0.alloc (.cells cur0 5)).alloc (.cells #[.slice none 0 0, .int .i64 0] 28)).heap[W0.heap.size + 1]? = some (.cells #[.slice none 0 0, .int .i64 0] 28 (0, 0)) := heap_alloc2_new W0 _ _
    have hG0 : ((W0.alloc (.cells cur0 5)).alloc (.cells #[.slice none 0 0, .int .i64 0] 28)).heap[W0.heap.size]? = some (.cells cur0 5 (0, 0)) := heap_alloc2_old W0 _ _
    have hLI0 : LI w.heap.size w S len p c (W0.heap.size + 1) W0.heap.size 0 none ((W0.alloc (.cells cur0 5)).alloc (.cells #[.slice none 0 0, .int .i64 0] 28)) := by
      refine ⟨(hB0H.out.alloc hszW _).alloc (by simp; omega) _, hS1H.out.keep (fun b cs hb => by have := lt_of_heap hb; rw [Below.heap_alloc _ _ b (by simp; omega), Below.heap_alloc _ _ b this]; exact hb), .inl ⟨rfl, rfl, hA0⟩, (by simp), (fun g e => by cases e), ⟨cur0, hG0, by rw [hc0H.out, hTLH.out], rfl⟩, by omega, hszW⟩
    have hLI0H := hide hLI0
    clear hLI0 hA0 hG0 htt hmk hS1H hB0H
    go_loopw [3, 5] (fun v3 v5 wr => ∃ k : Nat, k ≤ len ∧ v3 = .slice (some ⟨W0.heap.size, 0, none⟩) (tot S k) TL ∧ v5 = .int .i64 k ∧ Hid (∃ row, LI w.heap.size w S len p c (W0.heap.size + 1) W0.heap.size k row wr)) (fun v3 v5 _ => len - (intOf v5).toNat)
    case atStart => exact ⟨0, by omega, rfl, rfl, hide ⟨none, hLI0H.out⟩⟩
    case round =>
      obtain ⟨k, hk, rfl, rfl, hI⟩ := hrel
      by_cases hlt : k < len
      · obtain ⟨WE, rfl⟩ : ∃ WE, WE = wr := ⟨_, rfl⟩
        obtain ⟨row, hLI⟩ := hI.out
        clear hI hLI0H
        have hstr := hLI.str
        rcases hstr with ⟨_, h0, _⟩ | ⟨C, cs, rfl, hCN, hCb, hCs⟩
        · omega
        have ck := hLI.str.cell hlt
        obtain ⟨W1, cp, hcv, hcp, hPut, hfz⟩ := put_bytes WE (S k)
        have hm1 := tot_mono S (k + 1) len (by omega)
        have hm2 : tot S k + (S k).size ≤ TL := by rw [hTLH.out]; exact hm1
        obtain ⟨vA, hvA⟩ := hLI.ts.blk
        have hAl := lt_of_heap hvA
        obtain ⟨cur, hcur, hc1, hc2⟩ := hLI.whole
        have hGl := lt_of_heap hcur
        have hNr : w.heap.size ≤ WE.heap.size := by omega
        have hTS1 : TS W1 (W0.heap.size + 1) row (tl (cat S k)) (tot S k) := hLI.ts.keep (hPut.old _ hAl) (fun g e => by
          obtain ⟨cg, hcg⟩ := hLI.ts.row_tag e
          exact hPut.old g (lt_of_heap hcg))
        have hrp : row ≠ some WE.heap.size := fun e => by
          obtain ⟨cg, hcg⟩ := hLI.ts.row_tag e
          have := lt_of_heap hcg
          omega
        have hwr := write_any (W0.heap.size + 1) WE.heap.size cp (tot S k) row (tl (cat S k)) (S k).data.toList (S k).size W1 rfl hTS1 (by omega) (by rw [hPut.size]; omega) hrp hPut.src (by omega) (by omega) hcp
        obtain ⟨N, hN⟩ : ∃ N, N = tot S k := ⟨_, rfl⟩
        obtain ⟨z, hz⟩ : ∃ z, z = (S k).size := ⟨_, rfl⟩
        -- p, as it stands behind Write
        have hmid : Hid (∀ W2 g, (row = some g ∨ (row = none ∧ g = W1.heap.size)) → Fr W1 W2 (W0.heap.size + 1) g → W2.cell? ⟨C, k, none⟩ = some (.string (S k)) ∧ Mid W2 WE.heap.size z W2) := fun W2 g hg hF => by
          have hCg : C ≠ g := by
            rcases hg with e | ⟨_, e⟩
            · obtain ⟨cg, hcg⟩ := hLI.ts.row_tag e
              exact heap_ne hCb hcg (by decide)
            · have := lt_of_heap hCb
              rw [e, hPut.size]; omega
          have hpg : WE.heap.size ≠ g := by
            rcases hg with e | ⟨_, e⟩
            · exact fun e' => hrp (by rw [e, e'])
            · rw [e, hPut.size]; omega
          have hC2 : W2.heap[C]? = some (.cells cs 9 (0, 0)) := by rw [hF.block C (by rw [hPut.size]; have := lt_of_heap hCb; omega) (heap_ne hCb hvA (by decide)) hCg, hPut.old C (lt_of_heap hCb)]; exact hCb
          have hp2 : W2.heap[WE.heap.size]? = W1.heap[WE.heap.size]? := hF.block _ (by rw [hPut.size]; omega) (by omega) hpg
          refine ⟨by rw [cell_of_row W2 C k cs 9 _ hC2]; exact hCs k hlt, rfl, rfl, rfl, rfl, fun _ _ => rfl, fun j hj => ?_, fun j hj => (World.frozen?_of_block (a := ⟨WE.heap.size, j, none⟩) hp2).trans (hfz j (by omega))⟩
          have hjl : j < (S k).data.toList.length := by rw [hz] at hj; simpa using hj
          refine ⟨(((S k).data.toList[j]).toNat : Int), (World.cell?_of_block (a := ⟨WE.heap.size, j, none⟩) hp2).trans (hPut.src j _ ?_)⟩
          simp only [encB, List.getElem?_map]
          rw [List.getElem?_eq_getElem hjl]
          rfl
        have hkeep : Hid (∀ W2 g, TS W2 (W0.heap.size + 1) (some g) (tl (tl (cat S k) ++ (S k).data.toList)) (tot S k + (S k).size) → (row = some g ∨ (row = none ∧ g = W1.heap.size)) → Fr W1 W2 (W0.heap.size + 1) g → ∀ wr, Mid W2 WE.heap.size z wr →
            wr.cell? ⟨C, k, none⟩ = some (.string (S k)) ∧ ∃ W4, (∀ ty, (Builtin.append_ #[26, 9] ty #[.slice (some ⟨W0.heap.size, 0, none⟩) N TL, .string (S k)]).run Try.prog wr = .ok (.slice (some ⟨W0.heap.size, 0, none⟩) (N + (S k).size) TL) W4) ∧
            LI w.heap.size w S len (some ⟨C, 0, none⟩) c (W0.heap.size + 1) W0.heap.size (k + 1) (some g) W4 ∧ w.heap.size ≤ W4.heap.size ∧
            (Calls Try.prog 10 #[.pointer (some ⟨W0.heap.size + 1, 0, none⟩), .slice (some ⟨W0.heap.size, 0, none⟩) (N + (S k).size) TL] W4 fun e w' => e = .returned (.bool true) ∧ w'.heap = W4.heap ∧ Below W4.heap.size W4 w')) := fun W2 g hT hg hF wr hM => by
          have hCg : C ≠ g := by
            rcases hg with e | ⟨_, e⟩
            · obtain ⟨cg, hcg⟩ := hLI.ts.row_tag e
              exact heap_ne hCb hcg (by decide)
            · have := lt_of_heap hCb
              rw [e, hPut.size]; omega
          have hGg : W0.heap.size ≠ g := by
            rcases hg with e | ⟨_, e⟩
            · exact fun e' => hLI.rG (by rw [e, e'])
            · rw [e, hPut.size]; omega
          have hpg : WE.heap.size ≠ g := by
            rcases hg with e | ⟨_, e⟩
            · exact fun e' => hrp (by rw [e, e'])
            · rw [e, hPut.size]; omega
          have hold : ∀ b, b < WE.heap.size → b ≠ W0.heap.size + 1 → b ≠ g → wr.heap[b]? = WE.heap[b]? := fun b hb h1 h2 => (hM.old b (by omega)).trans ((hF.block b (by rw [hPut.size]; omega) h1 h2).trans (hPut.old b hb))
          have hC2 : wr.heap[C]? = some (.cells cs 9 (0, 0)) := (hold C (lt_of_heap hCb) (heap_ne hCb hvA (by decide)) hCg).trans hCb
          have hG2 : wr.heap[W0.heap.size]? = some (.cells cur 5 (0, 0)) := (hold _ hGl (by omega) hGg).trans hcur
          have hT' : TS wr (W0.heap.size + 1) (some g) (tl (tl (cat S k) ++ (S k).data.toList)) (tot S k + (S k).size) := hT.keep (hM.old _ (by omega)) (fun g' e => by cases e; exact hM.old g (Ne.symm hpg))
          have hsz : WE.heap.size + 1 ≤ wr.heap.size := by have := hF.size; rw [hPut.size] at this; rw [hM.size]; exact this
          have hL := hLI.step2 (W2 := wr) (g := g) hlt hNr hT' (by rw [hPut.size] at hg; exact hg) (hM.os.trans (hF.os.trans hPut.os)) (hM.tape.trans (hF.tape.trans hPut.tape)) (hM.output.trans (hF.output.trans hPut.output)) hsz hold hG2 hc1 hc2
          obtain ⟨i0, hi0, hz0, hz1, hz2⟩ := info_one info8
          refine ⟨by rw [cell_of_row wr C k cs 9 _ hC2]; exact hCs k hlt, _, fun ty => ?_, hL, ?_, ?_⟩
          · rw [hN]
            exact run_append_string_room wr 26 9 ty 5 i0 Try.underlying26 Try.underlying9 hi0 hz1 W0.heap.size (tot S k) TL cur hG2 (S k) hm2 (by rw [hc1, ← hTLH.out]; exact hm2)
          · exact Nat.le_trans hL.bel.size (Nat.le_refl _)
          · obtain ⟨cur4, d1, d2, d3⟩ := hL.whole
            rcases hL.ts with ⟨h1, _⟩ | ⟨g', h1, h2, h3⟩
            · cases h1
            cases h1
            have he : N + (S k).size = tot S (k + 1) := by rw [hN]; rfl
            rw [he]
            exact match_any (W0.heap.size + 1) g W0.heap.size (tot S (k + 1)) TL (cat S (k + 1)) cur4 _ h2 (cat_len S (k + 1)) d1 d3 (by rw [← he, hN]; omega)
        rw [← hN]
        have hwrH := hide hwr; have hNH := hide hN; have hzH := hide hz
        have hlt' : (k : Int) < (len : Int) := by omega
        have hzz : (((S k).size : Int) != ((S k).size : Int)) = false := by simp
        have hzb : z ≤ 1048576 := by omega
        clear hwr hLI hPut hfz hTS1 hrp hcur hc1 hc2 hvA hCb hCs hN hm1 hz
        go_upto_region 18 with (first
          | (go_at_call 9; refine hwrH.out.mono ?_; rintro e W2 ⟨rfl, g, hT2, hg2, hF2⟩; obtain ⟨ck2, hM0⟩ := hmid.out W2 g hg2 hF2; have hk2 := hide (hkeep.out W2 g hT2 hg2 hF2); have hM0H := hide hM0; clear hT2 hg2 hF2 hM0))
        go_loopw [9] (fun j wr => ∃ i : Nat, i ≤ (S k).size ∧ j = .int .i64 i ∧ Hid (Mid W2 WE.heap.size z wr)) (fun j _ => (S k).size - (intOf j).toNat)
        case atStart => exact ⟨0, by omega, rfl, hM0H⟩
        case round =>
          obtain ⟨i, hi, rfl, hJ⟩ := hrel
          have hzz' := hzH.out
          by_cases hil : i < (S k).size
          · obtain ⟨v, hv⟩ := hJ.out.cells i (by omega)
            have hf := hJ.out.froz i (by omega)
            have hil' : (i : Int) < ((S k).size : Int) := by omega
            have hi0 : i < z := by omega
            clear hzz'
            go_wp2_with fail
            go_roundw
            case rel => exact ⟨i + 1, by omega, by go_num, hide (hJ.out.set hi0)⟩
            case measure => simp [intOf]; omega
          · obtain rfl : i = (S k).size := by omega
            obtain ⟨ck3, W4, hap, hL4, hN4, hmt⟩ := hk2.out wr hJ.out
            have hL4H := hide hL4; have hmtH := hide hmt; have hapH := hide hap
            clear hL4 hmt hap hzz'
            go_wp2_with (first
              | (at_builtin; refine wpList_append_run _ rfl _ _ 26 9 rfl _ _ rfl rfl (hapH.out _) ?_)
              | (go_at_call 10; refine hmtH.out.mono ?_; rintro e W5 ⟨rfl, hW5, hB5⟩))
            go_roundw
            case rel => exact ⟨k + 1, by omega, by rw [hNH.out]; rfl, by go_num, hide ⟨some g, hL4H.out.heap hW5 hB5 hN4⟩⟩
            case measure => simp [intOf]; omega
      · obtain rfl : k = len := by omega
        obtain ⟨row, hLI⟩ := hI.out
        go_wp2_with fail
        go_ret
        exact ⟨rfl, hLI.bel⟩
  · have t1 : ((4096 : Int) < (len : Int)) := by omega
    clear h
    go_enter Try.func3, Try.ntmps3
    go_wp2_with (first
      | (go_at_call 5; refine hby.out.mono ?_; rintro e w ⟨b, rfl, rfl, hbt⟩))
    all_goals (go_ret; exact ⟨rfl, Below.refl _ _⟩)
end Go.Proofs.Qxb6001695a
