import Derived.Test.Qxb6001038aW2
import Derived.Test.Qxb6001038aTr2
namespace Go.Proofs.Qxb6001038a
open Go.RowKit
set_option linter.unusedVariables false
set_option linter.unusedSimpArgs false
attribute [local go_sem ↓] Go.wp_at_zero Go.wp_at_succ

def WalkC (h : Nat) : Prop := ∀ (base wb n lo hi d : Nat) (dd : Int) (r : Nd) (root : Bool) (vk vi : Value) (ks ix : List Nat) (ld : Int) (σ : Nat → Option Nd) (w : World), dd = d → Rep base w σ → σ n = some r → Wk base w wb vk vi ks ix ld → base ≤ w.heap.size →
  Body σ h r lo hi → r.es.length ≤ 31 → (root = true ∨ 15 ≤ r.es.length) → d + h ≤ 8 → (ld < 0 ∨ ld = ((d + h : Nat) : Int)) → ks.length + (hi - lo) < 100000 → ix.length + (hi - lo) < 100000 →
  Calls Try.prog 32 #[.pointer (some ⟨wb, 0, none⟩), .pointer (some ⟨n, 0, none⟩), .bool root, .int .i64 dd] w fun e w' => e = .returned (.tuple #[]) ∧ MutW base w w' ∧
    ∃ vk' vi', Wk base w' wb vk' vi' (ks ++ List.range' lo (hi - lo)) (ix ++ List.range' lo (hi - lo)) ((d + h : Nat) : Int)

theorem walk0 : WalkC 0 := by
  intro base wb n lo hi d dd r root vk vi ks ix ld σ w h0 hR hr hW hbase hB hel hroot hd hld hk hi'
  subst h0
  obtain ⟨b1, b2, b3⟩ := hB
  refine (walk_leaf base wb n lo d r root vk vi ks ix ld σ w hR hr hW hbase b1 hel hroot (by omega) (by simpa using hld) (by omega) (by omega)).mono ?_
  rintro e w' ⟨rfl, hM, vk', vi', hW'⟩
  refine ⟨rfl, hM, vk', vi', ?_⟩
  rw [show hi - lo = r.es.length by omega, ← b2]
  exact hW'

/-- Behind k rounds the keys below this have been met. -/
def PT (hi lo : Nat) (es : List Nat) (k : Nat) : Nat := if k ≤ es.length then stK lo es k else hi

set_option maxHeartbeats 4000000 in
set_option maxRecDepth 100000 in
theorem walk_succ (h : Nat) (ih : WalkC h) : WalkC (h + 1) := by
  intro base wb n lo hi d dd r root vk vi ks ix ld σ w h0 hR hr hW hbase hB hel hroot hd hld hk hi'
  subst h0
  have hB' : Kids (Sub σ h) r.cs r.es lo hi := hB
  have hcl := kids_len hB'
  obtain ⟨ph, hp⟩ := hR
  obtain ⟨pe, ce, hpe, hpel, hpem⟩ := ownsRow_shape (hp.nd n r hr).ents
  obtain ⟨gc, cc, hpc, hpcl, hpcm, hgcl⟩ := ownsRow_pos (hp.nd n r hr).kids (by omega)
  have c0 := hp.c0 hr; have c1 := hp.c1 hr
  rw [hpe] at c0
  rw [hpc] at c1
  have hPH := hide hp; have hWH := hide hW; have hpcH := hide hpc; have hBH := hide hB'; have hiH := hide ih
  clear hp hW hpe hB hB' ih
  obtain ⟨len, hlen⟩ : ∃ len, len = r.es.length := ⟨_, rfl⟩
  rw [hcl] at c1
  rw [← hlen] at c0 c1 hel hroot hpel
  have hlH := hide hlen; have hclH := hide hcl
  clear hlen hcl hpc
  have hle1 : ¬ ((31 : Int) < (len : Int)) := by omega
  have hc0 : (((len + 1 : Nat) : Int) == 0) = false := by rw [beq_eq_false_iff_ne]; omega
  have hc1 : ((len : Int) + 1 == 0) = false := by rw [beq_eq_false_iff_ne]; omega
  have hbr : root = false → ¬ ((len : Int) < 15) := by rintro rfl; simp at hroot; omega
  have hdB : (d : Int) ≤ 8 := by omega
  have hd1 : d + 1 + h ≤ 8 := by omega
  have hldH := hide hld
  clear hld
  cases hrt : root
  · subst hrt
    have hb15 : ¬ ((len : Int) < 15) := hbr rfl
    clear hbr
    go_enter Try.func32, Try.ntmps32
    go_wp2_with (first | (go_at_call 14; refine (numEntries_any n _ len _ _ c0).mono ?_; rintro e w' ⟨rfl, rfl⟩) | (go_at_call 34; refine (numChildren_any n _ (len + 1) _ _ c1).mono ?_; rintro e w ⟨rfl, rfl⟩))
    clear c0 c1
    go_loopw [11] (fun j wr => ∃ k : Nat, k ≤ len + 1 ∧ j = .int .i64 k ∧ Hid (MutW base w wr ∧ ∃ vk' vi' ld', ((k = 0 ∧ ld' = ld) ∨ ld' = ((d + 1 + h : Nat) : Int)) ∧ Wk base wr wb vk' vi' (ks ++ List.range' lo (PT hi lo r.es k - lo)) (ix ++ List.range' lo (PT hi lo r.es k - lo)) ld')) (fun j _ => len + 1 - (intOf j).toNat)
    case atStart => exact ⟨0, by omega, rfl, MutW.refl _ _, vk, vi, ld, .inl ⟨rfl, rfl⟩, by simpa [PT, stK] using hWH.out⟩
    case round =>
      obtain ⟨k, hk1, rfl, hI⟩ := hrel
      by_cases hle : k ≤ len
      · obtain ⟨hM, vk0, vi0, ld0, hld0, hW0⟩ := hI.out
        clear hI
        have hkl : k ≤ r.es.length := by rw [← hlH.out]; exact hle
        have hp1 : RepP base wr σ ph := hPH.out.keep fun b c t fz hc ht => hM.oth b c t fz hc (by rcases ht with rfl | rfl | rfl | rfl <;> decide) (by rcases ht with rfl | rfl | rfl | rfl <;> decide) (by rcases ht with rfl | rfl | rfl | rfl <;> decide)
        have hsub := kids_get hBH.out k hkl
        obtain ⟨rc, hrc, hrc1, hrc2, hrcb⟩ := sub_body hsub
        have hst := stK_le (sub_le σ h) hBH.out k hkl
        obtain ⟨c, hc⟩ : ∃ c, c = r.cs.getD k 0 := ⟨_, rfl⟩
        rw [← hc] at hrc
        have kc := kid_cell hp1 hr hpcH.out k (by rw [hclH.out]; omega)
        rw [← hc] at kc
        have c1 := hp1.c1 hr
        rw [hpcH.out, hclH.out, ← hlH.out] at c1
        obtain ⟨D, hD⟩ : ∃ D : Int, D = ((d + 1 + h : Nat) : Int) := ⟨_, rfl⟩
        have hldn : ld0 < 0 ∨ ld0 = ((d + 1 + h : Nat) : Int) := by
          rcases hld0 with ⟨_, rfl⟩ | h1
          · rcases hldH.out with h1 | h1
            · exact .inl h1
            · exact .inr (by rw [h1]; omega)
          · exact .inr h1
        have hpt : PT hi lo r.es k = stK lo r.es k := by unfold PT; rw [if_pos hkl]
        rw [hpt] at hW0
        obtain ⟨a, ha⟩ : ∃ a, a = stK lo r.es k := ⟨_, rfl⟩
        obtain ⟨b, hb⟩ : ∃ b, b = enK hi r.es k := ⟨_, rfl⟩
        rw [← ha] at hW0 hst hrcb
        rw [← hb] at hst hrcb
        have hbw0 : base ≤ wr.heap.size := Nat.le_trans hbase hM.below.size
        have hRw : Rep base wr σ := ⟨ph, hp1⟩
        have hcall : Hid (Calls Try.prog 32 #[.pointer (some ⟨wb, 0, none⟩), .pointer (some ⟨c, 0, none⟩), .bool false, .int .i64 ((d : Int) + 1)] wr fun e w' => e = .returned (.tuple #[]) ∧ MutW base wr w' ∧
            ∃ vk' vi', Wk base w' wb vk' vi' (ks ++ List.range' lo (b - lo)) (ix ++ List.range' lo (b - lo)) D) := by
          refine (hiH.out base wb c a b (d + 1) _ rc false vk0 vi0 _ _ ld0 σ wr (by omega) hRw hrc hW0 hbw0 hrcb hrc2 (.inr hrc1) hd1 hldn (by simp; omega) (by simp; omega)).mono ?_
          rintro e w' ⟨rfl, hM', vk', vi', hW'⟩
          refine ⟨rfl, hM', vk', vi', ?_⟩
          rw [List.append_assoc, List.append_assoc, range_join lo a b hst.1 hst.2.1] at hW'
          rw [hD]
          exact hW'
        have hMH := hide hM; have hDH := hide hD; have hbH := hide hb; have hp1H := hide hp1; have hcH := hide hc
        clear hM hD hb hp1 hW0 hRw hrc hrcb hsub hld0 hldn hpt ha hpcl hc
        by_cases hlt : k < len
        · go_upto_region 22 with (first | (go_at_call 15; refine (child_any n gc k (len + 1) cc (some ⟨c, 0, none⟩) _ c1 (by omega) kc).mono ?_; rintro e w' ⟨rfl, rfl⟩) | (go_at_call 32; refine hcall.out.mono ?_; rintro e wy ⟨rfl, hMy, vk1, vi1, hW1⟩))
          have hkl2 : k < r.es.length := by rw [← hlH.out]; exact hlt
          have hpy : RepP base wy σ ph := hp1H.out.keep fun b c t fz hc ht => hMy.oth b c t fz hc (by rcases ht with rfl | rfl | rfl | rfl <;> decide) (by rcases ht with rfl | rfl | rfl | rfl <;> decide) (by rcases ht with rfl | rfl | rfl | rfl <;> decide)
          obtain ⟨g, ce1, hve, hl1, hm1, hg1⟩ := ownsRow_pos (hpy.nd n r hr).ents (by omega)
          have c0 := hpy.c0 hr
          rw [hve, ← hlH.out] at c0
          obtain ⟨k0, k1, k2, k3⟩ := ent_cell hpy hr hve k hkl2
          obtain ⟨kk, hkk⟩ : ∃ kk, kk = r.es.getD k 0 := ⟨_, rfl⟩
          rw [← hkk] at k0 k2
          obtain ⟨K1, hK1⟩ : ∃ K1, K1 = ks ++ List.range' lo (b - lo) := ⟨_, rfl⟩
          obtain ⟨I1, hI1⟩ : ∃ I1, I1 = ix ++ List.range' lo (b - lo) := ⟨_, rfl⟩
          rw [← hK1, ← hI1] at hW1
          have hKl : K1.length < 200000 := by rw [hK1]; simp; omega
          have hIl : I1.length < 200000 := by rw [hI1]; simp; omega
          have hbkk : b = kk := by rw [hbH.out, enK_lt hkl2, hkk]
          have hpt1 : PT hi lo r.es (k + 1) = b + 1 := by unfold PT; rw [if_pos (by omega), stK_succ, ← hkk, hbkk]
          have hfin : Hid (ks ++ List.range' lo (PT hi lo r.es (k + 1) - lo) = K1 ++ [kk] ∧ ix ++ List.range' lo (PT hi lo r.es (k + 1) - lo) = I1 ++ [kk]) := by
            unfold Hid; rw [hpt1, ← range_one lo b (by omega), hK1, hI1, hbkk]; simp
          have hnT : ∃ c fz, wy.heap[n]? = some (.cells c 64 fz) := ⟨_, _, (hpy.nd n r hr).node⟩
          have hgT : ∃ c fz, wy.heap[g]? = some (.cells c 75 fz) := by
            obtain ⟨_, c, hc⟩ := ownsRow_tag (hpy.nd n r hr).ents (b := g) (by rw [hve]; rfl)
            exact ⟨c, _, hc⟩
          have hnTH := hide hnT; have hgTH := hide hgT
          have hbw : base ≤ wy.heap.size := Nat.le_trans hbw0 hMy.below.size
          have hMyH := hide hMy
          clear hkk hK1 hI1 k1 k3 hpy hve hkl2 hMy hbkk hpt1 hnT hgT c1 kc hcall
          obtain ⟨i0, hi0, hz0, hz1, hz2⟩ := info_parts infoSt
          obtain ⟨pk, ck, hvk, hkl1, hkm1⟩ := ownsRow_shape hW1.keys
          have q0 := hW1.c0; have f0 := hW1.fz 0
          have nw0 : ∀ o, (wy.alloc o).cell? ⟨wb, 0, none⟩ = some vk1 := fun o => (World.cell?_of_block (a := ⟨wb, 0, none⟩) (Below.heap_alloc wy o wb (lt_of_heap hW1.blk))).trans q0
          have o1 : (wy.alloc (.cells #[.string (p6 kk)] 9)).drew.ownsRow base 9 1 vk1 K1.length (encK K1) := (hW1.keys.alloc _).drew
          have o2 : ∀ j u, [Value.string (p6 kk)][j]? = some u → (wy.alloc (.cells #[.string (p6 kk)] 9)).drew.cell? ((⟨wy.heap.size, 0, none⟩ : Addr).add j) = some u := World.news_of_block (w := (wy.alloc (.cells #[.string (p6 kk)] 9)).drew) (heap_alloc_new wy _)
          have o7 : ∀ w8, (wy.alloc (.cells #[.string (p6 kk)] 9)).drew.grownBy w8 vk1.ownBlock → w8.frozen? ⟨wb, 0, none⟩ = false ∧ w8.cell? ⟨wb, 0, none⟩ = some vk1 := fun w8 hg8 => by
            have hg : wy.grownBy w8 vk1.ownBlock := grown_trans (grown_drew (grown_alloc _ _)) hg8
            have hb := off_row hW1.keys hg hW1.blk (by decide)
            exact ⟨frozen_of_row w8 wb 0 _ 57 hb, by rw [cell_of_row w8 wb 0 _ 57 _ hb]; rfl⟩
          rw [hvk] at q0 nw0 o1 o7
          have hWH1 := hide hW1; have hvH := hide hvk; have o1H := hide o1; have o2H := hide o2; have o7H := hide o7
          clear hW1 hvk o1 o2 o7
          go_upto_region 23 with fail
          go_cut [105] (fun v w' => ∃ vk2, Wk base w' wb vk2 vi1 (K1 ++ [kk]) I1 D ∧ MutW base wy w')
          case first =>
            go_region_law (first
              | (refine step_fn_quiet rfl 35 _ _ rfl #[.pointer (some ⟨n, 0, none⟩), .int .i64 k] (by simp [Act.eval, Act.put]) Try.f35 Try.func35 (by kernel_rfl) (by kernel_rfl) (.string (p6 kk)) (key_any n g k len ce1 (p6 kk) _ (by exact c0) hlt (by exact k0)) ?_)
              | (refine step_append_lies _ (by rfl) _ _ 54 (by rfl) base 9 i0 (.string ⟨#[]⟩) 1 16 Try.underlying54 hi0 hz0 hz1 hz2 rfl (by omega) (.slice pk K1.length ck) K1.length (encK K1) (by simp [Act.eval, Act.put]) o1H.out ⟨wy.heap.size, 0, none⟩ 1 1 [.string (p6 kk)] (by simp [Act.eval, Act.put]) rfl o2H.out (by simp [Value.oneCell']) (by omega) (by unfold maxLen; omega) (by omega) (by simp; omega) (wy.heap.size + 1) (by simp) ?_; intro g8 cap8 w8 hown8 hgr8 hat8 hlt8; have f8 := (o7H.out _ hgr8).1; have q8 := (o7H.out _ hgr8).2))
            all_goals go_wp2_with fail
            all_goals go_meet
            all_goals
              go_light
              have hgr : wy.grownBy w8 vk1.ownBlock := by rw [hvH.out]; exact grown_trans (grown_drew (grown_alloc _ _)) hgr8
              have hps := hWH1.out.pushK hgr _ kk hown8 hbw
              exact ⟨_, hps.1, hps.2⟩
          case rest =>
            obtain ⟨vk2, hW2, hM2⟩ := hcut
            have c0 := MutW.cellN hM2 hnTH.out c0; have k2 := MutW.cellE hM2 hgTH.out k2
            have hbw2 : base ≤ wc.heap.size := Nat.le_trans hbw hM2.below.size
            obtain ⟨i0, hi0, hz0, hz1, hz2⟩ := info_parts infoU
            obtain ⟨pi, ck, hvk, hkl2, hkm2⟩ := ownsRow_shape hW2.idx
            have q0 := hW2.c1; have f0 := hW2.fz 1
            have nw0 : ∀ o, (wc.alloc o).cell? ⟨wb, 1, none⟩ = some vi1 := fun o => (World.cell?_of_block (a := ⟨wb, 1, none⟩) (Below.heap_alloc wc o wb (lt_of_heap hW2.blk))).trans q0
            have o1 : (wc.alloc (.cells #[.int .u64 kk] 60)).drew.ownsRow base 60 1 vi1 I1.length (encI I1) := (hW2.idx.alloc _).drew
            have o2 : ∀ j u, [Value.int .u64 kk][j]? = some u → (wc.alloc (.cells #[.int .u64 kk] 60)).drew.cell? ((⟨wc.heap.size, 0, none⟩ : Addr).add j) = some u := World.news_of_block (w := (wc.alloc (.cells #[.int .u64 kk] 60)).drew) (heap_alloc_new wc _)
            have o7 : ∀ w8, (wc.alloc (.cells #[.int .u64 kk] 60)).drew.grownBy w8 vi1.ownBlock → w8.frozen? ⟨wb, 1, none⟩ = false ∧ w8.cell? ⟨wb, 1, none⟩ = some vi1 := fun w8 hg8 => by
              have hg : wc.grownBy w8 vi1.ownBlock := grown_trans (grown_drew (grown_alloc _ _)) hg8
              have hb := off_row hW2.idx hg hW2.blk (by decide)
              exact ⟨frozen_of_row w8 wb 1 _ 57 hb, by rw [cell_of_row w8 wb 1 _ 57 _ hb]; rfl⟩
            rw [hvk] at q0 nw0 o1 o7
            have hWH2 := hide hW2; have hvH := hide hvk; have o1H := hide o1; have o2H := hide o2; have o7H := hide o7
            clear hW2 hvk o1 o2 o7
            go_upto_region 24 with fail
            go_region_law (first
              | (refine step_fn_quiet rfl 45 _ _ rfl #[.pointer (some ⟨n, 0, none⟩), .int .i64 k] (by simp [Act.eval, Act.put]) Try.f45 Try.func45 (by kernel_rfl) (by kernel_rfl) (.int .u64 kk) (index_any n g k len ce1 kk _ (by exact c0) hlt (by exact k2)) ?_)
              | (refine step_append_lies _ (by rfl) _ _ 55 (by rfl) base 60 i0 (.int .u64 0) 1 8 Try.underlying55 hi0 hz0 hz1 hz2 rfl (by omega) (.slice pi I1.length ck) I1.length (encI I1) (by simp [Act.eval, Act.put]) o1H.out ⟨wc.heap.size, 0, none⟩ 1 1 [.int .u64 kk] (by simp [Act.eval, Act.put]) rfl o2H.out (by simp [Value.oneCell']) (by omega) (by unfold maxLen; omega) (by omega) (by simp; omega) (wc.heap.size + 1) (by simp) ?_; intro g8 cap8 w8 hown8 hgr8 hat8 hlt8; have f8 := (o7H.out _ hgr8).1; have q8 := (o7H.out _ hgr8).2))
            all_goals go_wp2_with fail
            all_goals
              have hgr : wc.grownBy w8 vi1.ownBlock := by rw [hvH.out]; exact grown_trans (grown_drew (grown_alloc _ _)) hgr8
              have hps := hWH2.out.pushI hgr _ kk hown8 hbw2
              go_roundw
              case rel =>
                have hps1 := hps.1
                rw [← hfin.out.1, ← hfin.out.2] at hps1
                exact ⟨k + 1, by omega, by go_num, hMH.out.trans (hMyH.out.trans (hM2.trans hps.2)), vk2, _, D, .inr hDH.out, hps1⟩
              case measure => simp [intOf]; omega
        · obtain rfl : k = len := by omega
          go_wp2_with (first | (go_at_call 15; refine (child_any n gc k (k + 1) cc (some ⟨c, 0, none⟩) _ c1 (by omega) kc).mono ?_; rintro e w' ⟨rfl, rfl⟩) | (go_at_call 32; refine hcall.out.mono ?_; rintro e wy ⟨rfl, hMy, vk1, vi1, hW1⟩))
          go_roundw
          case rel =>
            refine ⟨k + 1, by omega, by go_num, hMH.out.trans hMy, vk1, vi1, D, .inr hDH.out, ?_⟩
            have : PT hi lo r.es (k + 1) = b := by unfold PT; rw [if_neg (by rw [← hlH.out]; omega), hbH.out, hlH.out, enK_last]
            rw [this]
            exact hW1
          case measure => simp [intOf]
      · obtain rfl : k = len + 1 := by omega
        go_wp2_with fail
        go_end0
        obtain ⟨hM, vk0, vi0, ld0, hld0, hW0⟩ := hI.out
        have : PT hi lo r.es (len + 1) = hi := by unfold PT; rw [if_neg (by rw [← hlH.out]; omega)]
        rw [this] at hW0
        refine ⟨rfl, hM, vk0, vi0, ?_⟩
        rcases hld0 with ⟨h1, _⟩ | h1
        · omega
        · rw [h1, show d + 1 + h = d + (h + 1) by omega] at hW0
          exact hW0
  · subst hrt
    clear hbr
    go_enter Try.func32, Try.ntmps32
    go_wp2_with (first | (go_at_call 14; refine (numEntries_any n _ len _ _ c0).mono ?_; rintro e w' ⟨rfl, rfl⟩) | (go_at_call 34; refine (numChildren_any n _ (len + 1) _ _ c1).mono ?_; rintro e w ⟨rfl, rfl⟩))
    clear c0 c1
    go_loopw [11] (fun j wr => ∃ k : Nat, k ≤ len + 1 ∧ j = .int .i64 k ∧ Hid (MutW base w wr ∧ ∃ vk' vi' ld', ((k = 0 ∧ ld' = ld) ∨ ld' = ((d + 1 + h : Nat) : Int)) ∧ Wk base wr wb vk' vi' (ks ++ List.range' lo (PT hi lo r.es k - lo)) (ix ++ List.range' lo (PT hi lo r.es k - lo)) ld')) (fun j _ => len + 1 - (intOf j).toNat)
    case atStart => exact ⟨0, by omega, rfl, MutW.refl _ _, vk, vi, ld, .inl ⟨rfl, rfl⟩, by simpa [PT, stK] using hWH.out⟩
    case round =>
      obtain ⟨k, hk1, rfl, hI⟩ := hrel
      by_cases hle : k ≤ len
      · obtain ⟨hM, vk0, vi0, ld0, hld0, hW0⟩ := hI.out
        clear hI
        have hkl : k ≤ r.es.length := by rw [← hlH.out]; exact hle
        have hp1 : RepP base wr σ ph := hPH.out.keep fun b c t fz hc ht => hM.oth b c t fz hc (by rcases ht with rfl | rfl | rfl | rfl <;> decide) (by rcases ht with rfl | rfl | rfl | rfl <;> decide) (by rcases ht with rfl | rfl | rfl | rfl <;> decide)
        have hsub := kids_get hBH.out k hkl
        obtain ⟨rc, hrc, hrc1, hrc2, hrcb⟩ := sub_body hsub
        have hst := stK_le (sub_le σ h) hBH.out k hkl
        obtain ⟨c, hc⟩ : ∃ c, c = r.cs.getD k 0 := ⟨_, rfl⟩
        rw [← hc] at hrc
        have kc := kid_cell hp1 hr hpcH.out k (by rw [hclH.out]; omega)
        rw [← hc] at kc
        have c1 := hp1.c1 hr
        rw [hpcH.out, hclH.out, ← hlH.out] at c1
        obtain ⟨D, hD⟩ : ∃ D : Int, D = ((d + 1 + h : Nat) : Int) := ⟨_, rfl⟩
        have hldn : ld0 < 0 ∨ ld0 = ((d + 1 + h : Nat) : Int) := by
          rcases hld0 with ⟨_, rfl⟩ | h1
          · rcases hldH.out with h1 | h1
            · exact .inl h1
            · exact .inr (by rw [h1]; omega)
          · exact .inr h1
        have hpt : PT hi lo r.es k = stK lo r.es k := by unfold PT; rw [if_pos hkl]
        rw [hpt] at hW0
        obtain ⟨a, ha⟩ : ∃ a, a = stK lo r.es k := ⟨_, rfl⟩
        obtain ⟨b, hb⟩ : ∃ b, b = enK hi r.es k := ⟨_, rfl⟩
        rw [← ha] at hW0 hst hrcb
        rw [← hb] at hst hrcb
        have hbw0 : base ≤ wr.heap.size := Nat.le_trans hbase hM.below.size
        have hRw : Rep base wr σ := ⟨ph, hp1⟩
        have hcall : Hid (Calls Try.prog 32 #[.pointer (some ⟨wb, 0, none⟩), .pointer (some ⟨c, 0, none⟩), .bool false, .int .i64 ((d : Int) + 1)] wr fun e w' => e = .returned (.tuple #[]) ∧ MutW base wr w' ∧
            ∃ vk' vi', Wk base w' wb vk' vi' (ks ++ List.range' lo (b - lo)) (ix ++ List.range' lo (b - lo)) D) := by
          refine (hiH.out base wb c a b (d + 1) _ rc false vk0 vi0 _ _ ld0 σ wr (by omega) hRw hrc hW0 hbw0 hrcb hrc2 (.inr hrc1) hd1 hldn (by simp; omega) (by simp; omega)).mono ?_
          rintro e w' ⟨rfl, hM', vk', vi', hW'⟩
          refine ⟨rfl, hM', vk', vi', ?_⟩
          rw [List.append_assoc, List.append_assoc, range_join lo a b hst.1 hst.2.1] at hW'
          rw [hD]
          exact hW'
        have hMH := hide hM; have hDH := hide hD; have hbH := hide hb; have hp1H := hide hp1; have hcH := hide hc
        clear hM hD hb hp1 hW0 hRw hrc hrcb hsub hld0 hldn hpt ha hpcl hc
        by_cases hlt : k < len
        · go_upto_region 22 with (first | (go_at_call 15; refine (child_any n gc k (len + 1) cc (some ⟨c, 0, none⟩) _ c1 (by omega) kc).mono ?_; rintro e w' ⟨rfl, rfl⟩) | (go_at_call 32; refine hcall.out.mono ?_; rintro e wy ⟨rfl, hMy, vk1, vi1, hW1⟩))
          have hkl2 : k < r.es.length := by rw [← hlH.out]; exact hlt
          have hpy : RepP base wy σ ph := hp1H.out.keep fun b c t fz hc ht => hMy.oth b c t fz hc (by rcases ht with rfl | rfl | rfl | rfl <;> decide) (by rcases ht with rfl | rfl | rfl | rfl <;> decide) (by rcases ht with rfl | rfl | rfl | rfl <;> decide)
          obtain ⟨g, ce1, hve, hl1, hm1, hg1⟩ := ownsRow_pos (hpy.nd n r hr).ents (by omega)
          have c0 := hpy.c0 hr
          rw [hve, ← hlH.out] at c0
          obtain ⟨k0, k1, k2, k3⟩ := ent_cell hpy hr hve k hkl2
          obtain ⟨kk, hkk⟩ : ∃ kk, kk = r.es.getD k 0 := ⟨_, rfl⟩
          rw [← hkk] at k0 k2
          obtain ⟨K1, hK1⟩ : ∃ K1, K1 = ks ++ List.range' lo (b - lo) := ⟨_, rfl⟩
          obtain ⟨I1, hI1⟩ : ∃ I1, I1 = ix ++ List.range' lo (b - lo) := ⟨_, rfl⟩
          rw [← hK1, ← hI1] at hW1
          have hKl : K1.length < 200000 := by rw [hK1]; simp; omega
          have hIl : I1.length < 200000 := by rw [hI1]; simp; omega
          have hbkk : b = kk := by rw [hbH.out, enK_lt hkl2, hkk]
          have hpt1 : PT hi lo r.es (k + 1) = b + 1 := by unfold PT; rw [if_pos (by omega), stK_succ, ← hkk, hbkk]
          have hfin : Hid (ks ++ List.range' lo (PT hi lo r.es (k + 1) - lo) = K1 ++ [kk] ∧ ix ++ List.range' lo (PT hi lo r.es (k + 1) - lo) = I1 ++ [kk]) := by
            unfold Hid; rw [hpt1, ← range_one lo b (by omega), hK1, hI1, hbkk]; simp
          have hnT : ∃ c fz, wy.heap[n]? = some (.cells c 64 fz) := ⟨_, _, (hpy.nd n r hr).node⟩
          have hgT : ∃ c fz, wy.heap[g]? = some (.cells c 75 fz) := by
            obtain ⟨_, c, hc⟩ := ownsRow_tag (hpy.nd n r hr).ents (b := g) (by rw [hve]; rfl)
            exact ⟨c, _, hc⟩
          have hnTH := hide hnT; have hgTH := hide hgT
          have hbw : base ≤ wy.heap.size := Nat.le_trans hbw0 hMy.below.size
          have hMyH := hide hMy
          clear hkk hK1 hI1 k1 k3 hpy hve hkl2 hMy hbkk hpt1 hnT hgT c1 kc hcall
          obtain ⟨i0, hi0, hz0, hz1, hz2⟩ := info_parts infoSt
          obtain ⟨pk, ck, hvk, hkl1, hkm1⟩ := ownsRow_shape hW1.keys
          have q0 := hW1.c0; have f0 := hW1.fz 0
          have nw0 : ∀ o, (wy.alloc o).cell? ⟨wb, 0, none⟩ = some vk1 := fun o => (World.cell?_of_block (a := ⟨wb, 0, none⟩) (Below.heap_alloc wy o wb (lt_of_heap hW1.blk))).trans q0
          have o1 : (wy.alloc (.cells #[.string (p6 kk)] 9)).drew.ownsRow base 9 1 vk1 K1.length (encK K1) := (hW1.keys.alloc _).drew
          have o2 : ∀ j u, [Value.string (p6 kk)][j]? = some u → (wy.alloc (.cells #[.string (p6 kk)] 9)).drew.cell? ((⟨wy.heap.size, 0, none⟩ : Addr).add j) = some u := World.news_of_block (w := (wy.alloc (.cells #[.string (p6 kk)] 9)).drew) (heap_alloc_new wy _)
          have o7 : ∀ w8, (wy.alloc (.cells #[.string (p6 kk)] 9)).drew.grownBy w8 vk1.ownBlock → w8.frozen? ⟨wb, 0, none⟩ = false ∧ w8.cell? ⟨wb, 0, none⟩ = some vk1 := fun w8 hg8 => by
            have hg : wy.grownBy w8 vk1.ownBlock := grown_trans (grown_drew (grown_alloc _ _)) hg8
            have hb := off_row hW1.keys hg hW1.blk (by decide)
            exact ⟨frozen_of_row w8 wb 0 _ 57 hb, by rw [cell_of_row w8 wb 0 _ 57 _ hb]; rfl⟩
          rw [hvk] at q0 nw0 o1 o7
          have hWH1 := hide hW1; have hvH := hide hvk; have o1H := hide o1; have o2H := hide o2; have o7H := hide o7
          clear hW1 hvk o1 o2 o7
          go_upto_region 23 with fail
          go_cut [105] (fun v w' => ∃ vk2, Wk base w' wb vk2 vi1 (K1 ++ [kk]) I1 D ∧ MutW base wy w')
          case first =>
            go_region_law (first
              | (refine step_fn_quiet rfl 35 _ _ rfl #[.pointer (some ⟨n, 0, none⟩), .int .i64 k] (by simp [Act.eval, Act.put]) Try.f35 Try.func35 (by kernel_rfl) (by kernel_rfl) (.string (p6 kk)) (key_any n g k len ce1 (p6 kk) _ (by exact c0) hlt (by exact k0)) ?_)
              | (refine step_append_lies _ (by rfl) _ _ 54 (by rfl) base 9 i0 (.string ⟨#[]⟩) 1 16 Try.underlying54 hi0 hz0 hz1 hz2 rfl (by omega) (.slice pk K1.length ck) K1.length (encK K1) (by simp [Act.eval, Act.put]) o1H.out ⟨wy.heap.size, 0, none⟩ 1 1 [.string (p6 kk)] (by simp [Act.eval, Act.put]) rfl o2H.out (by simp [Value.oneCell']) (by omega) (by unfold maxLen; omega) (by omega) (by simp; omega) (wy.heap.size + 1) (by simp) ?_; intro g8 cap8 w8 hown8 hgr8 hat8 hlt8; have f8 := (o7H.out _ hgr8).1; have q8 := (o7H.out _ hgr8).2))
            all_goals go_wp2_with fail
            all_goals go_meet
            all_goals
              go_light
              have hgr : wy.grownBy w8 vk1.ownBlock := by rw [hvH.out]; exact grown_trans (grown_drew (grown_alloc _ _)) hgr8
              have hps := hWH1.out.pushK hgr _ kk hown8 hbw
              exact ⟨_, hps.1, hps.2⟩
          case rest =>
            obtain ⟨vk2, hW2, hM2⟩ := hcut
            have c0 := MutW.cellN hM2 hnTH.out c0; have k2 := MutW.cellE hM2 hgTH.out k2
            have hbw2 : base ≤ wc.heap.size := Nat.le_trans hbw hM2.below.size
            obtain ⟨i0, hi0, hz0, hz1, hz2⟩ := info_parts infoU
            obtain ⟨pi, ck, hvk, hkl2, hkm2⟩ := ownsRow_shape hW2.idx
            have q0 := hW2.c1; have f0 := hW2.fz 1
            have nw0 : ∀ o, (wc.alloc o).cell? ⟨wb, 1, none⟩ = some vi1 := fun o => (World.cell?_of_block (a := ⟨wb, 1, none⟩) (Below.heap_alloc wc o wb (lt_of_heap hW2.blk))).trans q0
            have o1 : (wc.alloc (.cells #[.int .u64 kk] 60)).drew.ownsRow base 60 1 vi1 I1.length (encI I1) := (hW2.idx.alloc _).drew
            have o2 : ∀ j u, [Value.int .u64 kk][j]? = some u → (wc.alloc (.cells #[.int .u64 kk] 60)).drew.cell? ((⟨wc.heap.size, 0, none⟩ : Addr).add j) = some u := World.news_of_block (w := (wc.alloc (.cells #[.int .u64 kk] 60)).drew) (heap_alloc_new wc _)
            have o7 : ∀ w8, (wc.alloc (.cells #[.int .u64 kk] 60)).drew.grownBy w8 vi1.ownBlock → w8.frozen? ⟨wb, 1, none⟩ = false ∧ w8.cell? ⟨wb, 1, none⟩ = some vi1 := fun w8 hg8 => by
              have hg : wc.grownBy w8 vi1.ownBlock := grown_trans (grown_drew (grown_alloc _ _)) hg8
              have hb := off_row hW2.idx hg hW2.blk (by decide)
              exact ⟨frozen_of_row w8 wb 1 _ 57 hb, by rw [cell_of_row w8 wb 1 _ 57 _ hb]; rfl⟩
            rw [hvk] at q0 nw0 o1 o7
            have hWH2 := hide hW2; have hvH := hide hvk; have o1H := hide o1; have o2H := hide o2; have o7H := hide o7
            clear hW2 hvk o1 o2 o7
            go_upto_region 24 with fail
            go_region_law (first
              | (refine step_fn_quiet rfl 45 _ _ rfl #[.pointer (some ⟨n, 0, none⟩), .int .i64 k] (by simp [Act.eval, Act.put]) Try.f45 Try.func45 (by kernel_rfl) (by kernel_rfl) (.int .u64 kk) (index_any n g k len ce1 kk _ (by exact c0) hlt (by exact k2)) ?_)
              | (refine step_append_lies _ (by rfl) _ _ 55 (by rfl) base 60 i0 (.int .u64 0) 1 8 Try.underlying55 hi0 hz0 hz1 hz2 rfl (by omega) (.slice pi I1.length ck) I1.length (encI I1) (by simp [Act.eval, Act.put]) o1H.out ⟨wc.heap.size, 0, none⟩ 1 1 [.int .u64 kk] (by simp [Act.eval, Act.put]) rfl o2H.out (by simp [Value.oneCell']) (by omega) (by unfold maxLen; omega) (by omega) (by simp; omega) (wc.heap.size + 1) (by simp) ?_; intro g8 cap8 w8 hown8 hgr8 hat8 hlt8; have f8 := (o7H.out _ hgr8).1; have q8 := (o7H.out _ hgr8).2))
            all_goals go_wp2_with fail
            all_goals
              have hgr : wc.grownBy w8 vi1.ownBlock := by rw [hvH.out]; exact grown_trans (grown_drew (grown_alloc _ _)) hgr8
              have hps := hWH2.out.pushI hgr _ kk hown8 hbw2
              go_roundw
              case rel =>
                have hps1 := hps.1
                rw [← hfin.out.1, ← hfin.out.2] at hps1
                exact ⟨k + 1, by omega, by go_num, hMH.out.trans (hMyH.out.trans (hM2.trans hps.2)), vk2, _, D, .inr hDH.out, hps1⟩
              case measure => simp [intOf]; omega
        · obtain rfl : k = len := by omega
          go_wp2_with (first | (go_at_call 15; refine (child_any n gc k (k + 1) cc (some ⟨c, 0, none⟩) _ c1 (by omega) kc).mono ?_; rintro e w' ⟨rfl, rfl⟩) | (go_at_call 32; refine hcall.out.mono ?_; rintro e wy ⟨rfl, hMy, vk1, vi1, hW1⟩))
          go_roundw
          case rel =>
            refine ⟨k + 1, by omega, by go_num, hMH.out.trans hMy, vk1, vi1, D, .inr hDH.out, ?_⟩
            have : PT hi lo r.es (k + 1) = b := by unfold PT; rw [if_neg (by rw [← hlH.out]; omega), hbH.out, hlH.out, enK_last]
            rw [this]
            exact hW1
          case measure => simp [intOf]
      · obtain rfl : k = len + 1 := by omega
        go_wp2_with fail
        go_end0
        obtain ⟨hM, vk0, vi0, ld0, hld0, hW0⟩ := hI.out
        have : PT hi lo r.es (len + 1) = hi := by unfold PT; rw [if_neg (by rw [← hlH.out]; omega)]
        rw [this] at hW0
        refine ⟨rfl, hM, vk0, vi0, ?_⟩
        rcases hld0 with ⟨h1, _⟩ | h1
        · omega
        · rw [h1, show d + 1 + h = d + (h + 1) by omega] at hW0
          exact hW0

end Go.Proofs.Qxb6001038a
