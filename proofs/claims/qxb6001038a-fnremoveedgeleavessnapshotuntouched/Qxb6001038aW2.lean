import Derived.Test.Qxb6001038aW1
namespace Go.Proofs.Qxb6001038a
open Go.RowKit
set_option linter.unusedVariables false
set_option linter.unusedSimpArgs false
attribute [local go_sem ↓] Go.wp_at_zero Go.wp_at_succ

theorem infoSt : (Try.prog.info? 9).map (fun i => (i.zero, i.size, i.bytes)) = some (some (.string ⟨#[]⟩), 1, 16) := by kernel_rfl
theorem infoU : (Try.prog.info? 60).map (fun i => (i.zero, i.size, i.bytes)) = some (some (.int .u64 0), 1, 8) := by kernel_rfl

theorem MutW.cellN {base : Nat} {w w' : World} {n : Nat} {v : Value} (h : MutW base w w') (hc : ∃ c fz, w.heap[n]? = some (.cells c 64 fz)) (hv : w.cell? ⟨n, 0, none⟩ = some v) : w'.cell? ⟨n, 0, none⟩ = some v := by
  obtain ⟨c, fz, hc⟩ := hc
  have := h.oth n c 64 fz hc (by decide) (by decide) (by decide)
  exact (World.cell?_of_block (a := ⟨n, 0, none⟩) (this.trans hc.symm)).trans hv
theorem MutW.cellE {base : Nat} {w w' : World} {n j : Nat} {v : Value} (h : MutW base w w') (hc : ∃ c fz, w.heap[n]? = some (.cells c 75 fz)) (hv : w.cell? ⟨n, j, none⟩ = some v) : w'.cell? ⟨n, j, none⟩ = some v := by
  obtain ⟨c, fz, hc⟩ := hc
  have := h.oth n c 75 fz hc (by decide) (by decide) (by decide)
  exact (World.cell?_of_block (a := ⟨n, j, none⟩) (this.trans hc.symm)).trans hv

set_option maxHeartbeats 4000000 in
set_option maxRecDepth 100000 in
theorem walk_leaf (base wb n lo d : Nat) (r : Nd) (root : Bool) (vk vi : Value) (ks ix : List Nat) (ld : Int) (σ : Nat → Option Nd) (w : World) (hR : Rep base w σ) (hr : σ n = some r) (hW : Wk base w wb vk vi ks ix ld) (hbase : base ≤ w.heap.size)
    (hcs : r.cs = []) (hel : r.es.length ≤ 31) (hroot : root = true ∨ 15 ≤ r.es.length) (hd : d ≤ 8) (hld : ld < 0 ∨ ld = d) (hk : ks.length < 100000) (hi : ix.length < 100000) :
    Calls Try.prog 32 #[.pointer (some ⟨wb, 0, none⟩), .pointer (some ⟨n, 0, none⟩), .bool root, .int .i64 d] w fun e w' => e = .returned (.tuple #[]) ∧ MutW base w w' ∧ ∃ vk' vi', Wk base w' wb vk' vi' (ks ++ r.es) (ix ++ r.es) d := by
  obtain ⟨ph, hp⟩ := hR
  obtain ⟨pe, ce, hpe, hpel, hpem⟩ := ownsRow_shape (hp.nd n r hr).ents
  have c0 := hp.c0 hr; have c1 := hp.c1 hr
  rw [hpe] at c0
  rw [(hp.nd n r hr).leaf hcs] at c1
  have w2 := hW.c2; have f2 := hW.fz 2
  have hPH := hide hp; have hWH := hide hW; have hpeH := hide hpe
  clear hp hW hpe
  obtain ⟨len, hlen⟩ : ∃ len, len = r.es.length := ⟨_, rfl⟩
  rw [← hlen] at c0 hel hroot hpel
  have hlH := hide hlen
  clear hlen
  have hle1 : ¬ ((31 : Int) < (len : Int)) := by omega
  have hbr : root = false → ¬ ((len : Int) < 15) := by rintro rfl; simp at hroot; omega
  cases hrt : root
  · subst hrt
    have hb15 : ¬ ((len : Int) < 15) := hbr rfl
    clear hbr
    rcases hld with hld | hld
    · skip
      go_enter Try.func32, Try.ntmps32
      go_wp2_with (first | (go_at_call 14; refine (numEntries_any n _ len _ _ c0).mono ?_; rintro e w' ⟨rfl, rfl⟩) | (go_at_call 34; refine (numChildren_any n _ 0 _ _ c1).mono ?_; rintro e w ⟨rfl, rfl⟩))
      have hset := hWH.out.setLd d hbase
      have hWk := hset.1; have hMk := hset.2
      clear hset hWH w2 f2
      generalize w.setCell ⟨wb, 2, none⟩ (.int .i64 d) = W0 at hWk hMk ⊢
      have hWkH := hide hWk; have hMkH := hide hMk
      clear hWk hMk c0 c1
      go_loopw [10] (fun j wr => ∃ k : Nat, k ≤ len ∧ j = .int .i64 k ∧ Hid (MutW base w wr ∧ ∃ vk' vi', Wk base wr wb vk' vi' (ks ++ r.es.take k) (ix ++ r.es.take k) d)) (fun j _ => len - (intOf j).toNat)
      case atStart => exact ⟨0, by omega, rfl, hMkH.out, vk, vi, by simpa using hWkH.out⟩
      case round =>
        obtain ⟨k, hk1, rfl, hI⟩ := hrel
        by_cases hlt : k < len
        · skip
          obtain ⟨hM, vk1, vi1, hW1⟩ := hI.out
          clear hI
          have hp1 : RepP base wr σ ph := hPH.out.keep fun b c t fz hc ht => hM.oth b c t fz hc (by rcases ht with rfl | rfl | rfl | rfl <;> decide) (by rcases ht with rfl | rfl | rfl | rfl <;> decide) (by rcases ht with rfl | rfl | rfl | rfl <;> decide)
          have hkl : k < r.es.length := by rw [← hlH.out]; exact hlt
          obtain ⟨g, ce1, hve, hl1, hm1, hg1⟩ := ownsRow_pos (hp1.nd n r hr).ents (by omega)
          have c0 := hp1.c0 hr
          rw [hve, ← hlH.out] at c0
          obtain ⟨k0, k1, k2, k3⟩ := ent_cell hp1 hr hve k hkl
          obtain ⟨kk, hkk⟩ : ∃ kk, kk = r.es.getD k 0 := ⟨_, rfl⟩
          rw [← hkk] at k0 k2
          have htk : r.es.take (k + 1) = r.es.take k ++ [kk] := by
            rw [List.take_succ_eq_append_getElem hkl, hkk]; simp [List.getD, hkl]
          obtain ⟨K1, hK1⟩ : ∃ K1, K1 = ks ++ r.es.take k := ⟨_, rfl⟩
          obtain ⟨I1, hI1⟩ : ∃ I1, I1 = ix ++ r.es.take k := ⟨_, rfl⟩
          rw [← hK1, ← hI1] at hW1
          have hKl : K1.length < 200000 := by rw [hK1]; simp; omega
          have hIl : I1.length < 200000 := by rw [hI1]; simp; omega
          have hnT : ∃ c fz, wr.heap[n]? = some (.cells c 64 fz) := ⟨_, _, (hp1.nd n r hr).node⟩
          have hgT : ∃ c fz, wr.heap[g]? = some (.cells c 75 fz) := by
            obtain ⟨_, c, hc⟩ := ownsRow_tag (hp1.nd n r hr).ents (b := g) (by rw [hve]; rfl)
            exact ⟨c, _, hc⟩
          have hnTH := hide hnT; have hgTH := hide hgT
          clear hnT hgT
          have hbw : base ≤ wr.heap.size := Nat.le_trans hbase hM.below.size
          have hfin : Hid (ks ++ r.es.take (k + 1) = K1 ++ [kk] ∧ ix ++ r.es.take (k + 1) = I1 ++ [kk]) := by
            unfold Hid; rw [htk, hK1, hI1]; simp
          have hMH := hide hM
          clear hkk htk hK1 hI1 k1 k3 hp1 hve hkl hM
          obtain ⟨i0, hi0, hz0, hz1, hz2⟩ := info_parts infoSt
          obtain ⟨pk, ck, hvk, hkl1, hkm1⟩ := ownsRow_shape hW1.keys
          have q0 := hW1.c0; have f0 := hW1.fz 0
          have nw0 : ∀ o, (wr.alloc o).cell? ⟨wb, 0, none⟩ = some vk1 := fun o => (World.cell?_of_block (a := ⟨wb, 0, none⟩) (Below.heap_alloc wr o wb (lt_of_heap hW1.blk))).trans q0
          have o1 : (wr.alloc (.cells #[.string (p6 kk)] 9)).drew.ownsRow base 9 1 vk1 K1.length (encK K1) := (hW1.keys.alloc _).drew
          have o2 : ∀ j u, [Value.string (p6 kk)][j]? = some u → (wr.alloc (.cells #[.string (p6 kk)] 9)).drew.cell? ((⟨wr.heap.size, 0, none⟩ : Addr).add j) = some u := World.news_of_block (w := (wr.alloc (.cells #[.string (p6 kk)] 9)).drew) (heap_alloc_new wr _)
          have o7 : ∀ w8, (wr.alloc (.cells #[.string (p6 kk)] 9)).drew.grownBy w8 vk1.ownBlock → w8.frozen? ⟨wb, 0, none⟩ = false ∧ w8.cell? ⟨wb, 0, none⟩ = some vk1 := fun w8 hg8 => by
            have hg : wr.grownBy w8 vk1.ownBlock := grown_trans (grown_drew (grown_alloc _ _)) hg8
            have hb := off_row hW1.keys hg hW1.blk (by decide)
            exact ⟨frozen_of_row w8 wb 0 _ 57 hb, by rw [cell_of_row w8 wb 0 _ 57 _ hb]; rfl⟩
          rw [hvk] at q0 nw0 o1 o7
          have hWH1 := hide hW1; have hvH := hide hvk; have o1H := hide o1; have o2H := hide o2; have o7H := hide o7
          clear hW1 hvk o1 o2 o7
          go_upto_region 14 with fail
          go_cut [59] (fun v w' => ∃ vk2, Wk base w' wb vk2 vi1 (K1 ++ [kk]) I1 d ∧ MutW base wr w')
          case first =>
            go_region_law (first
              | (refine step_fn_quiet rfl 35 _ _ rfl #[.pointer (some ⟨n, 0, none⟩), .int .i64 k] (by simp [Act.eval, Act.put]) Try.f35 Try.func35 (by kernel_rfl) (by kernel_rfl) (.string (p6 kk)) (key_any n g k len ce1 (p6 kk) _ (by exact c0) hlt (by exact k0)) ?_)
              | (refine step_append_lies _ (by rfl) _ _ 54 (by rfl) base 9 i0 (.string ⟨#[]⟩) 1 16 Try.underlying54 hi0 hz0 hz1 hz2 rfl (by omega) (.slice pk K1.length ck) K1.length (encK K1) (by simp [Act.eval, Act.put]) o1H.out ⟨wr.heap.size, 0, none⟩ 1 1 [.string (p6 kk)] (by simp [Act.eval, Act.put]) rfl o2H.out (by simp [Value.oneCell']) (by omega) (by unfold maxLen; omega) (by omega) (by simp; omega) (wr.heap.size + 1) (by simp) ?_; intro g8 cap8 w8 hown8 hgr8 hat8 hlt8; have f8 := (o7H.out _ hgr8).1; have q8 := (o7H.out _ hgr8).2))
            all_goals go_wp2_with fail
            all_goals go_meet
            all_goals
              go_light
              have hgr : wr.grownBy w8 vk1.ownBlock := by rw [hvH.out]; exact grown_trans (grown_drew (grown_alloc _ _)) hgr8
              have hps := hWH1.out.pushK hgr _ kk hown8 hbw
              exact ⟨_, hps.1, hps.2⟩
          case rest =>
            obtain ⟨vk2, hW2, hM2⟩ := hcut
            have c0 := MutW.cellN hM2 hnTH.out c0; have k2 := MutW.cellE hM2 hgTH.out k2
            have hbw2 : base ≤ wc.heap.size := Nat.le_trans hbw hM2.below.size
            obtain ⟨i0, hi0, hz0, hz1, hz2⟩ := info_parts infoU
            obtain ⟨pi, ck, hvk, hkl2, hkm2⟩ := ownsRow_shape hW2.idx
            have q0 := hW2.c1; have f0 := hW2.fz 1
            have nw0 : ∀ o, (wc.alloc o).cell? ⟨wb, 1, none⟩ = some vi1 := fun o => (World.cell?_of_block (a := ⟨wb, 1, none⟩) (Below.heap_alloc wc o wb (lt_of_heap hW2.blk))).trans q0
            have o1 : (wc.alloc (.cells #[.int .u64 kk] 60)).drew.ownsRow base 60 1 vi1 I1.length (encI I1) := (hW2.idx.alloc _).drew
            have o2 : ∀ j u, [Value.int .u64 kk][j]? = some u → (wc.alloc (.cells #[.int .u64 kk] 60)).drew.cell? ((⟨wc.heap.size, 0, none⟩ : Addr).add j) = some u := World.news_of_block (w := (wc.alloc (.cells #[.int .u64 kk] 60)).drew) (heap_alloc_new wc _)
            have o7 : ∀ w8, (wc.alloc (.cells #[.int .u64 kk] 60)).drew.grownBy w8 vi1.ownBlock → w8.frozen? ⟨wb, 1, none⟩ = false ∧ w8.cell? ⟨wb, 1, none⟩ = some vi1 := fun w8 hg8 => by
              have hg : wc.grownBy w8 vi1.ownBlock := grown_trans (grown_drew (grown_alloc _ _)) hg8
              have hb := off_row hW2.idx hg hW2.blk (by decide)
              exact ⟨frozen_of_row w8 wb 1 _ 57 hb, by rw [cell_of_row w8 wb 1 _ 57 _ hb]; rfl⟩
            rw [hvk] at q0 nw0 o1 o7
            have hWH2 := hide hW2; have hvH := hide hvk; have o1H := hide o1; have o2H := hide o2; have o7H := hide o7
            clear hW2 hvk o1 o2 o7
            go_upto_region 15 with fail
            go_region_law (first
              | (refine step_fn_quiet rfl 45 _ _ rfl #[.pointer (some ⟨n, 0, none⟩), .int .i64 k] (by simp [Act.eval, Act.put]) Try.f45 Try.func45 (by kernel_rfl) (by kernel_rfl) (.int .u64 kk) (index_any n g k len ce1 kk _ (by exact c0) hlt (by exact k2)) ?_)
              | (refine step_append_lies _ (by rfl) _ _ 55 (by rfl) base 60 i0 (.int .u64 0) 1 8 Try.underlying55 hi0 hz0 hz1 hz2 rfl (by omega) (.slice pi I1.length ck) I1.length (encI I1) (by simp [Act.eval, Act.put]) o1H.out ⟨wc.heap.size, 0, none⟩ 1 1 [.int .u64 kk] (by simp [Act.eval, Act.put]) rfl o2H.out (by simp [Value.oneCell']) (by omega) (by unfold maxLen; omega) (by omega) (by simp; omega) (wc.heap.size + 1) (by simp) ?_; intro g8 cap8 w8 hown8 hgr8 hat8 hlt8; have f8 := (o7H.out _ hgr8).1; have q8 := (o7H.out _ hgr8).2))
            all_goals go_wp2_with fail
            all_goals
              have hgr : wc.grownBy w8 vi1.ownBlock := by rw [hvH.out]; exact grown_trans (grown_drew (grown_alloc _ _)) hgr8
              have hps := hWH2.out.pushI hgr _ kk hown8 hbw2
              go_roundw
              case rel =>
                have hps1 := hps.1
                rw [← hfin.out.1, ← hfin.out.2] at hps1
                exact ⟨k + 1, by omega, by go_num, hMH.out.trans (hM2.trans hps.2), vk2, _, hps1⟩
              case measure => simp [intOf]; omega
        · obtain rfl : k = len := by omega
          go_wp2_with fail
          refine bodyPost_ret (results_none rfl _ _ _) rfl ?_
          obtain ⟨hM, vk1, vi1, hW1⟩ := hI.out
          refine ⟨rfl, hM, vk1, vi1, ?_⟩
          rw [hlH.out, List.take_length] at hW1
          exact hW1
    · subst hld
      have hdd : ¬ ((d : Int) < 0) := by omega
      go_enter Try.func32, Try.ntmps32
      go_wp2_with (first | (go_at_call 14; refine (numEntries_any n _ len _ _ c0).mono ?_; rintro e w' ⟨rfl, rfl⟩) | (go_at_call 34; refine (numChildren_any n _ 0 _ _ c1).mono ?_; rintro e w ⟨rfl, rfl⟩))
      have hWk := hWH.out; have hMk := MutW.refl base w
      clear hWH w2 f2
      obtain ⟨W0, hW0⟩ : ∃ W0, W0 = w := ⟨_, rfl⟩
      rw [← hW0] at hWk ⊢
      have hMk : MutW base w W0 := by rw [hW0]; exact MutW.refl base w
      clear hW0
      have hWkH := hide hWk; have hMkH := hide hMk
      clear hWk hMk c0 c1
      go_loopw [10] (fun j wr => ∃ k : Nat, k ≤ len ∧ j = .int .i64 k ∧ Hid (MutW base w wr ∧ ∃ vk' vi', Wk base wr wb vk' vi' (ks ++ r.es.take k) (ix ++ r.es.take k) d)) (fun j _ => len - (intOf j).toNat)
      case atStart => exact ⟨0, by omega, rfl, hMkH.out, vk, vi, by simpa using hWkH.out⟩
      case round =>
        obtain ⟨k, hk1, rfl, hI⟩ := hrel
        by_cases hlt : k < len
        · skip
          obtain ⟨hM, vk1, vi1, hW1⟩ := hI.out
          clear hI
          have hp1 : RepP base wr σ ph := hPH.out.keep fun b c t fz hc ht => hM.oth b c t fz hc (by rcases ht with rfl | rfl | rfl | rfl <;> decide) (by rcases ht with rfl | rfl | rfl | rfl <;> decide) (by rcases ht with rfl | rfl | rfl | rfl <;> decide)
          have hkl : k < r.es.length := by rw [← hlH.out]; exact hlt
          obtain ⟨g, ce1, hve, hl1, hm1, hg1⟩ := ownsRow_pos (hp1.nd n r hr).ents (by omega)
          have c0 := hp1.c0 hr
          rw [hve, ← hlH.out] at c0
          obtain ⟨k0, k1, k2, k3⟩ := ent_cell hp1 hr hve k hkl
          obtain ⟨kk, hkk⟩ : ∃ kk, kk = r.es.getD k 0 := ⟨_, rfl⟩
          rw [← hkk] at k0 k2
          have htk : r.es.take (k + 1) = r.es.take k ++ [kk] := by
            rw [List.take_succ_eq_append_getElem hkl, hkk]; simp [List.getD, hkl]
          obtain ⟨K1, hK1⟩ : ∃ K1, K1 = ks ++ r.es.take k := ⟨_, rfl⟩
          obtain ⟨I1, hI1⟩ : ∃ I1, I1 = ix ++ r.es.take k := ⟨_, rfl⟩
          rw [← hK1, ← hI1] at hW1
          have hKl : K1.length < 200000 := by rw [hK1]; simp; omega
          have hIl : I1.length < 200000 := by rw [hI1]; simp; omega
          have hnT : ∃ c fz, wr.heap[n]? = some (.cells c 64 fz) := ⟨_, _, (hp1.nd n r hr).node⟩
          have hgT : ∃ c fz, wr.heap[g]? = some (.cells c 75 fz) := by
            obtain ⟨_, c, hc⟩ := ownsRow_tag (hp1.nd n r hr).ents (b := g) (by rw [hve]; rfl)
            exact ⟨c, _, hc⟩
          have hnTH := hide hnT; have hgTH := hide hgT
          clear hnT hgT
          have hbw : base ≤ wr.heap.size := Nat.le_trans hbase hM.below.size
          have hfin : Hid (ks ++ r.es.take (k + 1) = K1 ++ [kk] ∧ ix ++ r.es.take (k + 1) = I1 ++ [kk]) := by
            unfold Hid; rw [htk, hK1, hI1]; simp
          have hMH := hide hM
          clear hkk htk hK1 hI1 k1 k3 hp1 hve hkl hM
          obtain ⟨i0, hi0, hz0, hz1, hz2⟩ := info_parts infoSt
          obtain ⟨pk, ck, hvk, hkl1, hkm1⟩ := ownsRow_shape hW1.keys
          have q0 := hW1.c0; have f0 := hW1.fz 0
          have nw0 : ∀ o, (wr.alloc o).cell? ⟨wb, 0, none⟩ = some vk1 := fun o => (World.cell?_of_block (a := ⟨wb, 0, none⟩) (Below.heap_alloc wr o wb (lt_of_heap hW1.blk))).trans q0
          have o1 : (wr.alloc (.cells #[.string (p6 kk)] 9)).drew.ownsRow base 9 1 vk1 K1.length (encK K1) := (hW1.keys.alloc _).drew
          have o2 : ∀ j u, [Value.string (p6 kk)][j]? = some u → (wr.alloc (.cells #[.string (p6 kk)] 9)).drew.cell? ((⟨wr.heap.size, 0, none⟩ : Addr).add j) = some u := World.news_of_block (w := (wr.alloc (.cells #[.string (p6 kk)] 9)).drew) (heap_alloc_new wr _)
          have o7 : ∀ w8, (wr.alloc (.cells #[.string (p6 kk)] 9)).drew.grownBy w8 vk1.ownBlock → w8.frozen? ⟨wb, 0, none⟩ = false ∧ w8.cell? ⟨wb, 0, none⟩ = some vk1 := fun w8 hg8 => by
            have hg : wr.grownBy w8 vk1.ownBlock := grown_trans (grown_drew (grown_alloc _ _)) hg8
            have hb := off_row hW1.keys hg hW1.blk (by decide)
            exact ⟨frozen_of_row w8 wb 0 _ 57 hb, by rw [cell_of_row w8 wb 0 _ 57 _ hb]; rfl⟩
          rw [hvk] at q0 nw0 o1 o7
          have hWH1 := hide hW1; have hvH := hide hvk; have o1H := hide o1; have o2H := hide o2; have o7H := hide o7
          clear hW1 hvk o1 o2 o7
          go_upto_region 14 with fail
          go_cut [59] (fun v w' => ∃ vk2, Wk base w' wb vk2 vi1 (K1 ++ [kk]) I1 d ∧ MutW base wr w')
          case first =>
            go_region_law (first
              | (refine step_fn_quiet rfl 35 _ _ rfl #[.pointer (some ⟨n, 0, none⟩), .int .i64 k] (by simp [Act.eval, Act.put]) Try.f35 Try.func35 (by kernel_rfl) (by kernel_rfl) (.string (p6 kk)) (key_any n g k len ce1 (p6 kk) _ (by exact c0) hlt (by exact k0)) ?_)
              | (refine step_append_lies _ (by rfl) _ _ 54 (by rfl) base 9 i0 (.string ⟨#[]⟩) 1 16 Try.underlying54 hi0 hz0 hz1 hz2 rfl (by omega) (.slice pk K1.length ck) K1.length (encK K1) (by simp [Act.eval, Act.put]) o1H.out ⟨wr.heap.size, 0, none⟩ 1 1 [.string (p6 kk)] (by simp [Act.eval, Act.put]) rfl o2H.out (by simp [Value.oneCell']) (by omega) (by unfold maxLen; omega) (by omega) (by simp; omega) (wr.heap.size + 1) (by simp) ?_; intro g8 cap8 w8 hown8 hgr8 hat8 hlt8; have f8 := (o7H.out _ hgr8).1; have q8 := (o7H.out _ hgr8).2))
            all_goals go_wp2_with fail
            all_goals go_meet
            all_goals
              go_light
              have hgr : wr.grownBy w8 vk1.ownBlock := by rw [hvH.out]; exact grown_trans (grown_drew (grown_alloc _ _)) hgr8
              have hps := hWH1.out.pushK hgr _ kk hown8 hbw
              exact ⟨_, hps.1, hps.2⟩
          case rest =>
            obtain ⟨vk2, hW2, hM2⟩ := hcut
            have c0 := MutW.cellN hM2 hnTH.out c0; have k2 := MutW.cellE hM2 hgTH.out k2
            have hbw2 : base ≤ wc.heap.size := Nat.le_trans hbw hM2.below.size
            obtain ⟨i0, hi0, hz0, hz1, hz2⟩ := info_parts infoU
            obtain ⟨pi, ck, hvk, hkl2, hkm2⟩ := ownsRow_shape hW2.idx
            have q0 := hW2.c1; have f0 := hW2.fz 1
            have nw0 : ∀ o, (wc.alloc o).cell? ⟨wb, 1, none⟩ = some vi1 := fun o => (World.cell?_of_block (a := ⟨wb, 1, none⟩) (Below.heap_alloc wc o wb (lt_of_heap hW2.blk))).trans q0
            have o1 : (wc.alloc (.cells #[.int .u64 kk] 60)).drew.ownsRow base 60 1 vi1 I1.length (encI I1) := (hW2.idx.alloc _).drew
            have o2 : ∀ j u, [Value.int .u64 kk][j]? = some u → (wc.alloc (.cells #[.int .u64 kk] 60)).drew.cell? ((⟨wc.heap.size, 0, none⟩ : Addr).add j) = some u := World.news_of_block (w := (wc.alloc (.cells #[.int .u64 kk] 60)).drew) (heap_alloc_new wc _)
            have o7 : ∀ w8, (wc.alloc (.cells #[.int .u64 kk] 60)).drew.grownBy w8 vi1.ownBlock → w8.frozen? ⟨wb, 1, none⟩ = false ∧ w8.cell? ⟨wb, 1, none⟩ = some vi1 := fun w8 hg8 => by
              have hg : wc.grownBy w8 vi1.ownBlock := grown_trans (grown_drew (grown_alloc _ _)) hg8
              have hb := off_row hW2.idx hg hW2.blk (by decide)
              exact ⟨frozen_of_row w8 wb 1 _ 57 hb, by rw [cell_of_row w8 wb 1 _ 57 _ hb]; rfl⟩
            rw [hvk] at q0 nw0 o1 o7
            have hWH2 := hide hW2; have hvH := hide hvk; have o1H := hide o1; have o2H := hide o2; have o7H := hide o7
            clear hW2 hvk o1 o2 o7
            go_upto_region 15 with fail
            go_region_law (first
              | (refine step_fn_quiet rfl 45 _ _ rfl #[.pointer (some ⟨n, 0, none⟩), .int .i64 k] (by simp [Act.eval, Act.put]) Try.f45 Try.func45 (by kernel_rfl) (by kernel_rfl) (.int .u64 kk) (index_any n g k len ce1 kk _ (by exact c0) hlt (by exact k2)) ?_)
              | (refine step_append_lies _ (by rfl) _ _ 55 (by rfl) base 60 i0 (.int .u64 0) 1 8 Try.underlying55 hi0 hz0 hz1 hz2 rfl (by omega) (.slice pi I1.length ck) I1.length (encI I1) (by simp [Act.eval, Act.put]) o1H.out ⟨wc.heap.size, 0, none⟩ 1 1 [.int .u64 kk] (by simp [Act.eval, Act.put]) rfl o2H.out (by simp [Value.oneCell']) (by omega) (by unfold maxLen; omega) (by omega) (by simp; omega) (wc.heap.size + 1) (by simp) ?_; intro g8 cap8 w8 hown8 hgr8 hat8 hlt8; have f8 := (o7H.out _ hgr8).1; have q8 := (o7H.out _ hgr8).2))
            all_goals go_wp2_with fail
            all_goals
              have hgr : wc.grownBy w8 vi1.ownBlock := by rw [hvH.out]; exact grown_trans (grown_drew (grown_alloc _ _)) hgr8
              have hps := hWH2.out.pushI hgr _ kk hown8 hbw2
              go_roundw
              case rel =>
                have hps1 := hps.1
                rw [← hfin.out.1, ← hfin.out.2] at hps1
                exact ⟨k + 1, by omega, by go_num, hMH.out.trans (hM2.trans hps.2), vk2, _, hps1⟩
              case measure => simp [intOf]; omega
        · obtain rfl : k = len := by omega
          go_wp2_with fail
          refine bodyPost_ret (results_none rfl _ _ _) rfl ?_
          obtain ⟨hM, vk1, vi1, hW1⟩ := hI.out
          refine ⟨rfl, hM, vk1, vi1, ?_⟩
          rw [hlH.out, List.take_length] at hW1
          exact hW1
  · subst hrt
    clear hbr
    rcases hld with hld | hld
    · skip
      go_enter Try.func32, Try.ntmps32
      go_wp2_with (first | (go_at_call 14; refine (numEntries_any n _ len _ _ c0).mono ?_; rintro e w' ⟨rfl, rfl⟩) | (go_at_call 34; refine (numChildren_any n _ 0 _ _ c1).mono ?_; rintro e w ⟨rfl, rfl⟩))
      have hset := hWH.out.setLd d hbase
      have hWk := hset.1; have hMk := hset.2
      clear hset hWH w2 f2
      generalize w.setCell ⟨wb, 2, none⟩ (.int .i64 d) = W0 at hWk hMk ⊢
      have hWkH := hide hWk; have hMkH := hide hMk
      clear hWk hMk c0 c1
      go_loopw [10] (fun j wr => ∃ k : Nat, k ≤ len ∧ j = .int .i64 k ∧ Hid (MutW base w wr ∧ ∃ vk' vi', Wk base wr wb vk' vi' (ks ++ r.es.take k) (ix ++ r.es.take k) d)) (fun j _ => len - (intOf j).toNat)
      case atStart => exact ⟨0, by omega, rfl, hMkH.out, vk, vi, by simpa using hWkH.out⟩
      case round =>
        obtain ⟨k, hk1, rfl, hI⟩ := hrel
        by_cases hlt : k < len
        · skip
          obtain ⟨hM, vk1, vi1, hW1⟩ := hI.out
          clear hI
          have hp1 : RepP base wr σ ph := hPH.out.keep fun b c t fz hc ht => hM.oth b c t fz hc (by rcases ht with rfl | rfl | rfl | rfl <;> decide) (by rcases ht with rfl | rfl | rfl | rfl <;> decide) (by rcases ht with rfl | rfl | rfl | rfl <;> decide)
          have hkl : k < r.es.length := by rw [← hlH.out]; exact hlt
          obtain ⟨g, ce1, hve, hl1, hm1, hg1⟩ := ownsRow_pos (hp1.nd n r hr).ents (by omega)
          have c0 := hp1.c0 hr
          rw [hve, ← hlH.out] at c0
          obtain ⟨k0, k1, k2, k3⟩ := ent_cell hp1 hr hve k hkl
          obtain ⟨kk, hkk⟩ : ∃ kk, kk = r.es.getD k 0 := ⟨_, rfl⟩
          rw [← hkk] at k0 k2
          have htk : r.es.take (k + 1) = r.es.take k ++ [kk] := by
            rw [List.take_succ_eq_append_getElem hkl, hkk]; simp [List.getD, hkl]
          obtain ⟨K1, hK1⟩ : ∃ K1, K1 = ks ++ r.es.take k := ⟨_, rfl⟩
          obtain ⟨I1, hI1⟩ : ∃ I1, I1 = ix ++ r.es.take k := ⟨_, rfl⟩
          rw [← hK1, ← hI1] at hW1
          have hKl : K1.length < 200000 := by rw [hK1]; simp; omega
          have hIl : I1.length < 200000 := by rw [hI1]; simp; omega
          have hnT : ∃ c fz, wr.heap[n]? = some (.cells c 64 fz) := ⟨_, _, (hp1.nd n r hr).node⟩
          have hgT : ∃ c fz, wr.heap[g]? = some (.cells c 75 fz) := by
            obtain ⟨_, c, hc⟩ := ownsRow_tag (hp1.nd n r hr).ents (b := g) (by rw [hve]; rfl)
            exact ⟨c, _, hc⟩
          have hnTH := hide hnT; have hgTH := hide hgT
          clear hnT hgT
          have hbw : base ≤ wr.heap.size := Nat.le_trans hbase hM.below.size
          have hfin : Hid (ks ++ r.es.take (k + 1) = K1 ++ [kk] ∧ ix ++ r.es.take (k + 1) = I1 ++ [kk]) := by
            unfold Hid; rw [htk, hK1, hI1]; simp
          have hMH := hide hM
          clear hkk htk hK1 hI1 k1 k3 hp1 hve hkl hM
          obtain ⟨i0, hi0, hz0, hz1, hz2⟩ := info_parts infoSt
          obtain ⟨pk, ck, hvk, hkl1, hkm1⟩ := ownsRow_shape hW1.keys
          have q0 := hW1.c0; have f0 := hW1.fz 0
          have nw0 : ∀ o, (wr.alloc o).cell? ⟨wb, 0, none⟩ = some vk1 := fun o => (World.cell?_of_block (a := ⟨wb, 0, none⟩) (Below.heap_alloc wr o wb (lt_of_heap hW1.blk))).trans q0
          have o1 : (wr.alloc (.cells #[.string (p6 kk)] 9)).drew.ownsRow base 9 1 vk1 K1.length (encK K1) := (hW1.keys.alloc _).drew
          have o2 : ∀ j u, [Value.string (p6 kk)][j]? = some u → (wr.alloc (.cells #[.string (p6 kk)] 9)).drew.cell? ((⟨wr.heap.size, 0, none⟩ : Addr).add j) = some u := World.news_of_block (w := (wr.alloc (.cells #[.string (p6 kk)] 9)).drew) (heap_alloc_new wr _)
          have o7 : ∀ w8, (wr.alloc (.cells #[.string (p6 kk)] 9)).drew.grownBy w8 vk1.ownBlock → w8.frozen? ⟨wb, 0, none⟩ = false ∧ w8.cell? ⟨wb, 0, none⟩ = some vk1 := fun w8 hg8 => by
            have hg : wr.grownBy w8 vk1.ownBlock := grown_trans (grown_drew (grown_alloc _ _)) hg8
            have hb := off_row hW1.keys hg hW1.blk (by decide)
            exact ⟨frozen_of_row w8 wb 0 _ 57 hb, by rw [cell_of_row w8 wb 0 _ 57 _ hb]; rfl⟩
          rw [hvk] at q0 nw0 o1 o7
          have hWH1 := hide hW1; have hvH := hide hvk; have o1H := hide o1; have o2H := hide o2; have o7H := hide o7
          clear hW1 hvk o1 o2 o7
          go_upto_region 14 with fail
          go_cut [59] (fun v w' => ∃ vk2, Wk base w' wb vk2 vi1 (K1 ++ [kk]) I1 d ∧ MutW base wr w')
          case first =>
            go_region_law (first
              | (refine step_fn_quiet rfl 35 _ _ rfl #[.pointer (some ⟨n, 0, none⟩), .int .i64 k] (by simp [Act.eval, Act.put]) Try.f35 Try.func35 (by kernel_rfl) (by kernel_rfl) (.string (p6 kk)) (key_any n g k len ce1 (p6 kk) _ (by exact c0) hlt (by exact k0)) ?_)
              | (refine step_append_lies _ (by rfl) _ _ 54 (by rfl) base 9 i0 (.string ⟨#[]⟩) 1 16 Try.underlying54 hi0 hz0 hz1 hz2 rfl (by omega) (.slice pk K1.length ck) K1.length (encK K1) (by simp [Act.eval, Act.put]) o1H.out ⟨wr.heap.size, 0, none⟩ 1 1 [.string (p6 kk)] (by simp [Act.eval, Act.put]) rfl o2H.out (by simp [Value.oneCell']) (by omega) (by unfold maxLen; omega) (by omega) (by simp; omega) (wr.heap.size + 1) (by simp) ?_; intro g8 cap8 w8 hown8 hgr8 hat8 hlt8; have f8 := (o7H.out _ hgr8).1; have q8 := (o7H.out _ hgr8).2))
            all_goals go_wp2_with fail
            all_goals go_meet
            all_goals
              go_light
              have hgr : wr.grownBy w8 vk1.ownBlock := by rw [hvH.out]; exact grown_trans (grown_drew (grown_alloc _ _)) hgr8
              have hps := hWH1.out.pushK hgr _ kk hown8 hbw
              exact ⟨_, hps.1, hps.2⟩
          case rest =>
            obtain ⟨vk2, hW2, hM2⟩ := hcut
            have c0 := MutW.cellN hM2 hnTH.out c0; have k2 := MutW.cellE hM2 hgTH.out k2
            have hbw2 : base ≤ wc.heap.size := Nat.le_trans hbw hM2.below.size
            obtain ⟨i0, hi0, hz0, hz1, hz2⟩ := info_parts infoU
            obtain ⟨pi, ck, hvk, hkl2, hkm2⟩ := ownsRow_shape hW2.idx
            have q0 := hW2.c1; have f0 := hW2.fz 1
            have nw0 : ∀ o, (wc.alloc o).cell? ⟨wb, 1, none⟩ = some vi1 := fun o => (World.cell?_of_block (a := ⟨wb, 1, none⟩) (Below.heap_alloc wc o wb (lt_of_heap hW2.blk))).trans q0
            have o1 : (wc.alloc (.cells #[.int .u64 kk] 60)).drew.ownsRow base 60 1 vi1 I1.length (encI I1) := (hW2.idx.alloc _).drew
            have o2 : ∀ j u, [Value.int .u64 kk][j]? = some u → (wc.alloc (.cells #[.int .u64 kk] 60)).drew.cell? ((⟨wc.heap.size, 0, none⟩ : Addr).add j) = some u := World.news_of_block (w := (wc.alloc (.cells #[.int .u64 kk] 60)).drew) (heap_alloc_new wc _)
            have o7 : ∀ w8, (wc.alloc (.cells #[.int .u64 kk] 60)).drew.grownBy w8 vi1.ownBlock → w8.frozen? ⟨wb, 1, none⟩ = false ∧ w8.cell? ⟨wb, 1, none⟩ = some vi1 := fun w8 hg8 => by
              have hg : wc.grownBy w8 vi1.ownBlock := grown_trans (grown_drew (grown_alloc _ _)) hg8
              have hb := off_row hW2.idx hg hW2.blk (by decide)
              exact ⟨frozen_of_row w8 wb 1 _ 57 hb, by rw [cell_of_row w8 wb 1 _ 57 _ hb]; rfl⟩
            rw [hvk] at q0 nw0 o1 o7
            have hWH2 := hide hW2; have hvH := hide hvk; have o1H := hide o1; have o2H := hide o2; have o7H := hide o7
            clear hW2 hvk o1 o2 o7
            go_upto_region 15 with fail
            go_region_law (first
              | (refine step_fn_quiet rfl 45 _ _ rfl #[.pointer (some ⟨n, 0, none⟩), .int .i64 k] (by simp [Act.eval, Act.put]) Try.f45 Try.func45 (by kernel_rfl) (by kernel_rfl) (.int .u64 kk) (index_any n g k len ce1 kk _ (by exact c0) hlt (by exact k2)) ?_)
              | (refine step_append_lies _ (by rfl) _ _ 55 (by rfl) base 60 i0 (.int .u64 0) 1 8 Try.underlying55 hi0 hz0 hz1 hz2 rfl (by omega) (.slice pi I1.length ck) I1.length (encI I1) (by simp [Act.eval, Act.put]) o1H.out ⟨wc.heap.size, 0, none⟩ 1 1 [.int .u64 kk] (by simp [Act.eval, Act.put]) rfl o2H.out (by simp [Value.oneCell']) (by omega) (by unfold maxLen; omega) (by omega) (by simp; omega) (wc.heap.size + 1) (by simp) ?_; intro g8 cap8 w8 hown8 hgr8 hat8 hlt8; have f8 := (o7H.out _ hgr8).1; have q8 := (o7H.out _ hgr8).2))
            all_goals go_wp2_with fail
            all_goals
              have hgr : wc.grownBy w8 vi1.ownBlock := by rw [hvH.out]; exact grown_trans (grown_drew (grown_alloc _ _)) hgr8
              have hps := hWH2.out.pushI hgr _ kk hown8 hbw2
              go_roundw
              case rel =>
                have hps1 := hps.1
                rw [← hfin.out.1, ← hfin.out.2] at hps1
                exact ⟨k + 1, by omega, by go_num, hMH.out.trans (hM2.trans hps.2), vk2, _, hps1⟩
              case measure => simp [intOf]; omega
        · obtain rfl : k = len := by omega
          go_wp2_with fail
          refine bodyPost_ret (results_none rfl _ _ _) rfl ?_
          obtain ⟨hM, vk1, vi1, hW1⟩ := hI.out
          refine ⟨rfl, hM, vk1, vi1, ?_⟩
          rw [hlH.out, List.take_length] at hW1
          exact hW1
    · subst hld
      have hdd : ¬ ((d : Int) < 0) := by omega
      go_enter Try.func32, Try.ntmps32
      go_wp2_with (first | (go_at_call 14; refine (numEntries_any n _ len _ _ c0).mono ?_; rintro e w' ⟨rfl, rfl⟩) | (go_at_call 34; refine (numChildren_any n _ 0 _ _ c1).mono ?_; rintro e w ⟨rfl, rfl⟩))
      have hWk := hWH.out; have hMk := MutW.refl base w
      clear hWH w2 f2
      obtain ⟨W0, hW0⟩ : ∃ W0, W0 = w := ⟨_, rfl⟩
      rw [← hW0] at hWk ⊢
      have hMk : MutW base w W0 := by rw [hW0]; exact MutW.refl base w
      clear hW0
      have hWkH := hide hWk; have hMkH := hide hMk
      clear hWk hMk c0 c1
      go_loopw [10] (fun j wr => ∃ k : Nat, k ≤ len ∧ j = .int .i64 k ∧ Hid (MutW base w wr ∧ ∃ vk' vi', Wk base wr wb vk' vi' (ks ++ r.es.take k) (ix ++ r.es.take k) d)) (fun j _ => len - (intOf j).toNat)
      case atStart => exact ⟨0, by omega, rfl, hMkH.out, vk, vi, by simpa using hWkH.out⟩
      case round =>
        obtain ⟨k, hk1, rfl, hI⟩ := hrel
        by_cases hlt : k < len
        · skip
          obtain ⟨hM, vk1, vi1, hW1⟩ := hI.out
          clear hI
          have hp1 : RepP base wr σ ph := hPH.out.keep fun b c t fz hc ht => hM.oth b c t fz hc (by rcases ht with rfl | rfl | rfl | rfl <;> decide) (by rcases ht with rfl | rfl | rfl | rfl <;> decide) (by rcases ht with rfl | rfl | rfl | rfl <;> decide)
          have hkl : k < r.es.length := by rw [← hlH.out]; exact hlt
          obtain ⟨g, ce1, hve, hl1, hm1, hg1⟩ := ownsRow_pos (hp1.nd n r hr).ents (by omega)
          have c0 := hp1.c0 hr
          rw [hve, ← hlH.out] at c0
          obtain ⟨k0, k1, k2, k3⟩ := ent_cell hp1 hr hve k hkl
          obtain ⟨kk, hkk⟩ : ∃ kk, kk = r.es.getD k 0 := ⟨_, rfl⟩
          rw [← hkk] at k0 k2
          have htk : r.es.take (k + 1) = r.es.take k ++ [kk] := by
            rw [List.take_succ_eq_append_getElem hkl, hkk]; simp [List.getD, hkl]
          obtain ⟨K1, hK1⟩ : ∃ K1, K1 = ks ++ r.es.take k := ⟨_, rfl⟩
          obtain ⟨I1, hI1⟩ : ∃ I1, I1 = ix ++ r.es.take k := ⟨_, rfl⟩
          rw [← hK1, ← hI1] at hW1
          have hKl : K1.length < 200000 := by rw [hK1]; simp; omega
          have hIl : I1.length < 200000 := by rw [hI1]; simp; omega
          have hnT : ∃ c fz, wr.heap[n]? = some (.cells c 64 fz) := ⟨_, _, (hp1.nd n r hr).node⟩
          have hgT : ∃ c fz, wr.heap[g]? = some (.cells c 75 fz) := by
            obtain ⟨_, c, hc⟩ := ownsRow_tag (hp1.nd n r hr).ents (b := g) (by rw [hve]; rfl)
            exact ⟨c, _, hc⟩
          have hnTH := hide hnT; have hgTH := hide hgT
          clear hnT hgT
          have hbw : base ≤ wr.heap.size := Nat.le_trans hbase hM.below.size
          have hfin : Hid (ks ++ r.es.take (k + 1) = K1 ++ [kk] ∧ ix ++ r.es.take (k + 1) = I1 ++ [kk]) := by
            unfold Hid; rw [htk, hK1, hI1]; simp
          have hMH := hide hM
          clear hkk htk hK1 hI1 k1 k3 hp1 hve hkl hM
          obtain ⟨i0, hi0, hz0, hz1, hz2⟩ := info_parts infoSt
          obtain ⟨pk, ck, hvk, hkl1, hkm1⟩ := ownsRow_shape hW1.keys
          have q0 := hW1.c0; have f0 := hW1.fz 0
          have nw0 : ∀ o, (wr.alloc o).cell? ⟨wb, 0, none⟩ = some vk1 := fun o => (World.cell?_of_block (a := ⟨wb, 0, none⟩) (Below.heap_alloc wr o wb (lt_of_heap hW1.blk))).trans q0
          have o1 : (wr.alloc (.cells #[.string (p6 kk)] 9)).drew.ownsRow base 9 1 vk1 K1.length (encK K1) := (hW1.keys.alloc _).drew
          have o2 : ∀ j u, [Value.string (p6 kk)][j]? = some u → (wr.alloc (.cells #[.string (p6 kk)] 9)).drew.cell? ((⟨wr.heap.size, 0, none⟩ : Addr).add j) = some u := World.news_of_block (w := (wr.alloc (.cells #[.string (p6 kk)] 9)).drew) (heap_alloc_new wr _)
          have o7 : ∀ w8, (wr.alloc (.cells #[.string (p6 kk)] 9)).drew.grownBy w8 vk1.ownBlock → w8.frozen? ⟨wb, 0, none⟩ = false ∧ w8.cell? ⟨wb, 0, none⟩ = some vk1 := fun w8 hg8 => by
            have hg : wr.grownBy w8 vk1.ownBlock := grown_trans (grown_drew (grown_alloc _ _)) hg8
            have hb := off_row hW1.keys hg hW1.blk (by decide)
            exact ⟨frozen_of_row w8 wb 0 _ 57 hb, by rw [cell_of_row w8 wb 0 _ 57 _ hb]; rfl⟩
          rw [hvk] at q0 nw0 o1 o7
          have hWH1 := hide hW1; have hvH := hide hvk; have o1H := hide o1; have o2H := hide o2; have o7H := hide o7
          clear hW1 hvk o1 o2 o7
          go_upto_region 14 with fail
          go_cut [59] (fun v w' => ∃ vk2, Wk base w' wb vk2 vi1 (K1 ++ [kk]) I1 d ∧ MutW base wr w')
          case first =>
            go_region_law (first
              | (refine step_fn_quiet rfl 35 _ _ rfl #[.pointer (some ⟨n, 0, none⟩), .int .i64 k] (by simp [Act.eval, Act.put]) Try.f35 Try.func35 (by kernel_rfl) (by kernel_rfl) (.string (p6 kk)) (key_any n g k len ce1 (p6 kk) _ (by exact c0) hlt (by exact k0)) ?_)
              | (refine step_append_lies _ (by rfl) _ _ 54 (by rfl) base 9 i0 (.string ⟨#[]⟩) 1 16 Try.underlying54 hi0 hz0 hz1 hz2 rfl (by omega) (.slice pk K1.length ck) K1.length (encK K1) (by simp [Act.eval, Act.put]) o1H.out ⟨wr.heap.size, 0, none⟩ 1 1 [.string (p6 kk)] (by simp [Act.eval, Act.put]) rfl o2H.out (by simp [Value.oneCell']) (by omega) (by unfold maxLen; omega) (by omega) (by simp; omega) (wr.heap.size + 1) (by simp) ?_; intro g8 cap8 w8 hown8 hgr8 hat8 hlt8; have f8 := (o7H.out _ hgr8).1; have q8 := (o7H.out _ hgr8).2))
            all_goals go_wp2_with fail
            all_goals go_meet
            all_goals
              go_light
              have hgr : wr.grownBy w8 vk1.ownBlock := by rw [hvH.out]; exact grown_trans (grown_drew (grown_alloc _ _)) hgr8
              have hps := hWH1.out.pushK hgr _ kk hown8 hbw
              exact ⟨_, hps.1, hps.2⟩
          case rest =>
            obtain ⟨vk2, hW2, hM2⟩ := hcut
            have c0 := MutW.cellN hM2 hnTH.out c0; have k2 := MutW.cellE hM2 hgTH.out k2
            have hbw2 : base ≤ wc.heap.size := Nat.le_trans hbw hM2.below.size
            obtain ⟨i0, hi0, hz0, hz1, hz2⟩ := info_parts infoU
            obtain ⟨pi, ck, hvk, hkl2, hkm2⟩ := ownsRow_shape hW2.idx
            have q0 := hW2.c1; have f0 := hW2.fz 1
            have nw0 : ∀ o, (wc.alloc o).cell? ⟨wb, 1, none⟩ = some vi1 := fun o => (World.cell?_of_block (a := ⟨wb, 1, none⟩) (Below.heap_alloc wc o wb (lt_of_heap hW2.blk))).trans q0
            have o1 : (wc.alloc (.cells #[.int .u64 kk] 60)).drew.ownsRow base 60 1 vi1 I1.length (encI I1) := (hW2.idx.alloc _).drew
            have o2 : ∀ j u, [Value.int .u64 kk][j]? = some u → (wc.alloc (.cells #[.int .u64 kk] 60)).drew.cell? ((⟨wc.heap.size, 0, none⟩ : Addr).add j) = some u := World.news_of_block (w := (wc.alloc (.cells #[.int .u64 kk] 60)).drew) (heap_alloc_new wc _)
            have o7 : ∀ w8, (wc.alloc (.cells #[.int .u64 kk] 60)).drew.grownBy w8 vi1.ownBlock → w8.frozen? ⟨wb, 1, none⟩ = false ∧ w8.cell? ⟨wb, 1, none⟩ = some vi1 := fun w8 hg8 => by
              have hg : wc.grownBy w8 vi1.ownBlock := grown_trans (grown_drew (grown_alloc _ _)) hg8
              have hb := off_row hW2.idx hg hW2.blk (by decide)
              exact ⟨frozen_of_row w8 wb 1 _ 57 hb, by rw [cell_of_row w8 wb 1 _ 57 _ hb]; rfl⟩
            rw [hvk] at q0 nw0 o1 o7
            have hWH2 := hide hW2; have hvH := hide hvk; have o1H := hide o1; have o2H := hide o2; have o7H := hide o7
            clear hW2 hvk o1 o2 o7
            go_upto_region 15 with fail
            go_region_law (first
              | (refine step_fn_quiet rfl 45 _ _ rfl #[.pointer (some ⟨n, 0, none⟩), .int .i64 k] (by simp [Act.eval, Act.put]) Try.f45 Try.func45 (by kernel_rfl) (by kernel_rfl) (.int .u64 kk) (index_any n g k len ce1 kk _ (by exact c0) hlt (by exact k2)) ?_)
              | (refine step_append_lies _ (by rfl) _ _ 55 (by rfl) base 60 i0 (.int .u64 0) 1 8 Try.underlying55 hi0 hz0 hz1 hz2 rfl (by omega) (.slice pi I1.length ck) I1.length (encI I1) (by simp [Act.eval, Act.put]) o1H.out ⟨wc.heap.size, 0, none⟩ 1 1 [.int .u64 kk] (by simp [Act.eval, Act.put]) rfl o2H.out (by simp [Value.oneCell']) (by omega) (by unfold maxLen; omega) (by omega) (by simp; omega) (wc.heap.size + 1) (by simp) ?_; intro g8 cap8 w8 hown8 hgr8 hat8 hlt8; have f8 := (o7H.out _ hgr8).1; have q8 := (o7H.out _ hgr8).2))
            all_goals go_wp2_with fail
            all_goals
              have hgr : wc.grownBy w8 vi1.ownBlock := by rw [hvH.out]; exact grown_trans (grown_drew (grown_alloc _ _)) hgr8
              have hps := hWH2.out.pushI hgr _ kk hown8 hbw2
              go_roundw
              case rel =>
                have hps1 := hps.1
                rw [← hfin.out.1, ← hfin.out.2] at hps1
                exact ⟨k + 1, by omega, by go_num, hMH.out.trans (hM2.trans hps.2), vk2, _, hps1⟩
              case measure => simp [intOf]; omega
        · obtain rfl : k = len := by omega
          go_wp2_with fail
          refine bodyPost_ret (results_none rfl _ _ _) rfl ?_
          obtain ⟨hM, vk1, vi1, hW1⟩ := hI.out
          refine ⟨rfl, hM, vk1, vi1, ?_⟩
          rw [hlH.out, List.take_length] at hW1
          exact hW1

end Go.Proofs.Qxb6001038a
