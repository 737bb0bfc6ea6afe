import Derived.Test.Qxb6001038aS1
namespace Go.Proofs.Qxb6001038a
open Go.RowKit
set_option linter.unusedVariables false
attribute [local go_sem ↓] Go.wp_at_zero Go.wp_at_succ

theorem newOwner_any (w : World) : Calls Try.prog 10 #[] w fun e w' => e = .returned (.pointer (some ⟨w.heap.size, 0, none⟩)) ∧ w' = w.alloc (.cells #[.int .u8 0] 47) := by
  go_enter Try.func10, Try.ntmps10
  go_wp2
  go_ret
  exact ⟨rfl, rfl⟩

theorem newNode_any (o : Nat) (w : World) : Calls Try.prog 27 #[.pointer (some ⟨o, 0, none⟩)] w fun e w' => e = .returned (.pointer (some ⟨w.heap.size, 0, none⟩)) ∧ w' = w.alloc (.cells #[.slice none 0 0, .slice none 0 0, .pointer (some ⟨o, 0, none⟩)] 64) := by
  go_enter Try.func27, Try.ntmps27
  go_wp2
  go_ret
  exact ⟨rfl, rfl⟩

theorem newNode_rep (base o : Nat) (σ : Nat → Option Nd) (w : World) (h : Rep base w σ) (hbase : base ≤ w.heap.size) (ho : w.heap[o]? = some (.cells #[.int .u8 0] 47 (0, 0))) :
    Calls Try.prog 27 #[.pointer (some ⟨o, 0, none⟩)] w fun e w' => e = .returned (.pointer (some ⟨w.heap.size, 0, none⟩)) ∧ Rep base w' (upd σ w.heap.size ⟨[], [], o⟩) ∧ Mut base w w' := by
  refine (newNode_any o w).mono ?_
  rintro e w' ⟨rfl, rfl⟩
  obtain ⟨ph, hp⟩ := h
  refine ⟨rfl, ⟨_, RepP.new hp (grown_refl w none) ⟨[], [], o⟩ (.slice none 0 0) (.slice none 0 0) (World.ownsRow_nil _ _ _ _) (World.ownsRow_nil _ _ _ _) (fun b hb => by cases hb) (fun b hb => by cases hb) (fun _ => rfl) hbase ho⟩, Mut.alloc _ _ hbase⟩

set_option maxHeartbeats 1000000 in
theorem addChild_any (base n c : Nat) (r : Nd) (σ : Nat → Option Nd) (w : World) (h : Rep base w σ) (hr : σ n = some r) (hn : r.cs.length < 100) (hbase : base ≤ w.heap.size) :
    Calls Try.prog 29 #[.pointer (some ⟨n, 0, none⟩), .pointer (some ⟨c, 0, none⟩)] w fun e w' => e = .returned (.tuple #[]) ∧ Rep base w' (upd σ n { r with cs := r.cs ++ [c] }) ∧ Mut base w w' := by
  obtain ⟨ph, hp⟩ := h
  obtain ⟨p, cap, hve, hl, hm⟩ := ownsRow_shape (hp.nd n r hr).kids
  obtain ⟨i0, hi0, hz0, hz1, hz2⟩ := info_parts infoCh
  have c1 := hp.c1 hr
  rw [hve] at c1
  have f1 := hp.fz hr 1
  have o1 : (w.alloc (.cells #[.pointer (some ⟨c, 0, none⟩)] 29)).ownsRow base 29 1 (.slice p r.cs.length cap) r.cs.length (encC r.cs) := by
    have := (hp.nd n r hr).kids
    rw [hve] at this
    exact this.alloc _
  have o2 : ∀ j u, [Value.pointer (some ⟨c, 0, none⟩)][j]? = some u → (w.alloc (.cells #[.pointer (some ⟨c, 0, none⟩)] 29)).cell? ((⟨w.heap.size, 0, none⟩ : Addr).add j) = some u := World.news_of_block (heap_alloc_new w _)
  have o7 : ∀ w8, (w.alloc (.cells #[.pointer (some ⟨c, 0, none⟩)] 29)).grownBy w8 (Value.slice p r.cs.length cap).ownBlock → w8.frozen? ⟨n, 1, none⟩ = false ∧ w8.cell? ⟨n, 1, none⟩ = some (.slice p r.cs.length cap) := fun w8 hg8 => by
    have hg : w.grownBy w8 (ph n).2.ownBlock := by rw [hve]; exact grown_trans (grown_alloc _ _) hg8
    have hn := (hp.offC hr hg).1
    exact ⟨(World.frozen?_of_block (a := ⟨n, 1, none⟩) hn).trans f1, (World.cell?_of_block (a := ⟨n, 1, none⟩) hn).trans c1⟩
  have hPH := hide hp; have hpH := hide hve; have o1H := hide o1; have o2H := hide o2; have o7H := hide o7
  clear hp hve o1 o2 o7
  go_enter Try.func29, Try.ntmps29
  go_wp2_with (at_builtin; refine wpList_append_lies _ rfl _ _ 62 rfl base 29 i0 (.pointer none) 1 8 Try.underlying62 hi0 hz0 hz1 hz2 rfl (by omega) (.slice p r.cs.length cap) r.cs.length (encC r.cs) rfl o1H.out ⟨w.heap.size, 0, none⟩ 1 1 [.pointer (some ⟨c, 0, none⟩)] rfl rfl o2H.out (by rw [← encC_one]; exact encC_cell1 _) (by omega) (by unfold maxLen; omega) (by omega) (by simp; omega) (w.heap.size + 1) (by simp) ?_; intro g cap1 w1 hown1 hgrow hat hlt; have f8 := (o7H.out _ hgrow).1; have q8 := (o7H.out _ hgrow).2)
  go_end0
  go_light
  have hcs : (r.cs ++ [c]).length = r.cs.length + 1 := by simp
  have hgr : w.grownBy w1 (ph n).2.ownBlock := by rw [hpH.out]; exact grown_trans (grown_alloc _ _) hgrow
  have hset := RepP.setC hPH.out hr hgr (.slice (some ⟨g, 0, none⟩) (r.cs.length + 1) cap1) (r.cs ++ [c]) (by rw [hcs, encC_append]; exact hown1)
    (fun b hb => by
      simp only [Value.ownBlock, Option.some.injEq] at hb
      rw [← hb, hpH.out]
      rcases hat with h | h
      · exact .inl h
      · exact .inr (by omega))
    (fun e => by rw [e] at hcs; cases hcs)
  exact ⟨rfl, ⟨_, hset⟩, mut_setC hPH.out hr hgr hbase _⟩

set_option maxHeartbeats 1000000 in
theorem addEntry_any (base n k : Nat) (kk : Int) (r : Nd) (σ : Nat → Option Nd) (w : World) (h : Rep base w σ) (hr : σ n = some r) (hn : r.es.length < 100) (hbase : base ≤ w.heap.size) (hkk : kk = k) :
    Calls Try.prog 39 #[.pointer (some ⟨n, 0, none⟩), .string (p6 k), .int .u64 kk] w fun e w' => e = .returned (.tuple #[]) ∧ Rep base w' (upd σ n { r with es := r.es ++ [k] }) ∧ Mut base w w' := by
  subst hkk
  obtain ⟨ph, hp⟩ := h
  obtain ⟨p, cap, hve, hl, hm⟩ := ownsRow_shape (hp.nd n r hr).ents
  obtain ⟨i0, hi0, hz0, hz1, hz2⟩ := info_parts infoEn
  have c0 := hp.c0 hr
  rw [hve] at c0
  have f0 := hp.fz hr 0
  obtain ⟨s, hs⟩ : ∃ s, s = p6 k := ⟨_, rfl⟩
  have o1 : (w.alloc (.cells #[.string s, .slice none 0 0, .int .u64 k, .int .u64 0] 75)).ownsRow base 75 4 (.slice p r.es.length cap) r.es.length (encE r.es) := by
    have := (hp.nd n r hr).ents
    rw [hve] at this
    exact this.alloc _
  have o2 : ∀ j u, (enE k)[j]? = some u → (w.alloc (.cells #[.string s, .slice none 0 0, .int .u64 k, .int .u64 0] 75)).cell? ((⟨w.heap.size, 0, none⟩ : Addr).add j) = some u := by
    rw [hs]; exact World.news_of_block (heap_alloc_new w _)
  have o7 : ∀ w8, (w.alloc (.cells #[.string s, .slice none 0 0, .int .u64 k, .int .u64 0] 75)).grownBy w8 (Value.slice p r.es.length cap).ownBlock → w8.frozen? ⟨n, 0, none⟩ = false ∧ w8.cell? ⟨n, 0, none⟩ = some (.slice p r.es.length cap) := fun w8 hg8 => by
    have hg : w.grownBy w8 (ph n).1.ownBlock := by rw [hve]; exact grown_trans (grown_alloc _ _) hg8
    have hn := (hp.offE hr hg).1
    exact ⟨(World.frozen?_of_block (a := ⟨n, 0, none⟩) hn).trans f0, (World.cell?_of_block (a := ⟨n, 0, none⟩) hn).trans c0⟩
  rw [← hs]
  have hPH := hide hp; have hpH := hide hve; have o1H := hide o1; have o2H := hide o2; have o7H := hide o7; have hsH := hide hs
  clear hp hve o1 o2 o7 hs
  go_enter Try.func39, Try.ntmps39
  go_wp2_with (at_builtin; refine wpList_append_lies _ rfl _ _ 61 rfl base 75 i0 zEn 4 56 Try.underlying61 hi0 hz0 hz1 hz2 rfl (by omega) (.slice p r.es.length cap) r.es.length (encE r.es) rfl o1H.out ⟨w.heap.size, 0, none⟩ 1 1 (enE k) rfl rfl o2H.out (by rw [← encE_one]; exact encE_cell1 _) (by omega) (by unfold maxLen; omega) (by omega) (by simp; omega) (w.heap.size + 1) (by simp) ?_; intro g cap1 w1 hown1 hgrow hat hlt; have f8 := (o7H.out _ hgrow).1; have q8 := (o7H.out _ hgrow).2)
  go_end0
  go_light
  have hes : (r.es ++ [k]).length = r.es.length + 1 := by simp
  have hgr : w.grownBy w1 (ph n).1.ownBlock := by rw [hpH.out]; exact grown_trans (grown_alloc _ _) hgrow
  have hset := RepP.setE hPH.out hr hgr (.slice (some ⟨g, 0, none⟩) (r.es.length + 1) cap1) (r.es ++ [k]) (by rw [hes, encE_append, encE_one]; exact hown1)
    (fun b hb => by
      simp only [Value.ownBlock, Option.some.injEq] at hb
      rw [← hb, hpH.out]
      rcases hat with h | h
      · exact .inl h
      · exact .inr (by omega))
  exact ⟨rfl, ⟨_, hset⟩, mut_setE hPH.out hr hgr hbase _⟩

end Go.Proofs.Qxb6001038a
