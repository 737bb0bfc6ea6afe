import Derived.Test.Qxb6001038aG1b
namespace Go.Proofs.Qxb6001038a
open Go.RowKit
set_option linter.unusedVariables false
set_option linter.unusedSimpArgs false
attribute [local go_sem ↓] Go.wp_at_zero Go.wp_at_succ

set_option maxHeartbeats 1000000 in
set_option maxRecDepth 100000 in
/-- grow where the child holds enough. -/
theorem grow_enough (B : Option Nat) (base n i c : Nat) (r s : Nd) (σ : Nat → Option Nd) (w : World) (hR : Rep base w σ) (hN0 : NB B w σ) (hr : σ n = some r) (hi : i < r.cs.length) (hc : r.cs.getD i 0 = c) (hs : σ c = some s) (hcn : c ≠ n)
    (hsl : 16 ≤ s.es.length) (hse : s.es.length < 100) (hsc : s.cs.length < 100) (hrc : r.cs.length < 100) (hbase : base ≤ w.heap.size) :
    Calls Try.prog 36 #[.pointer (some ⟨n, 0, none⟩), .int .i64 i] w fun e w' => ∃ c', e = .returned (.int .i64 i) ∧ ((c' = c ∧ s.own = r.own) ∨ σ c' = none) ∧ c' ≠ n ∧
      Rep base w' (upd (upd σ c' { s with own := r.own }) n { r with cs := r.cs.set i c' }) ∧ MutC base n w w' ∧ NB B w' (upd (upd σ c' { s with own := r.own }) n { r with cs := r.cs.set i c' }) := by
  obtain ⟨ph, hp⟩ := hR
  have hM0 := MutC.refl base n w
  go_enter Try.func36, Try.ntmps36
  obtain ⟨L1, hL1⟩ : ∃ L, L = r.cs.length := ⟨_, rfl⟩
  obtain ⟨gc1, cap1, hF1⟩ := cowF hp hr hi hc hL1
  have a11 := hF1.c1; have a21 := hF1.c2; have a31 := hF1.k0; have a41 : (i : Int) < (L1 : Int) := by have := hF1.lt; omega
  have hFH1 := hide hF1; have hpH1 := hide hp
  have hsz1 : base ≤ w.drew.heap.size := Nat.le_trans hbase hM0.size
  clear hF1 hp hL1
  go_upto_region 1 with fail
  go_cut [27] (fun v w' => ∃ c', ((c' = c ∧ s.own = r.own) ∨ σ c' = none) ∧ c' ≠ n ∧ Rep base w' (upd (upd σ c' { s with own := r.own }) n { r with cs := r.cs.set i c' }) ∧ MutC base n w w' ∧ NB B w' (upd (upd σ c' { s with own := r.own }) n { r with cs := r.cs.set i c' }))
  case first =>
    refine wp_region_held_drew (S := fun w' => w'.cell? ⟨n, 1, none⟩ = some (.slice (some ⟨gc1, 0, none⟩) L1 cap1) ∧ w'.cell? ⟨n, 2, none⟩ = some (.pointer (some ⟨r.own, 0, none⟩))) (by kernel_rfl) ⟨a11, a21⟩ (fun hHeld => ?_)
    refine wpAnyH_take (i := 0) (v := ?_) rfl (by kernel_rfl) (by kernel_rfl) (by kernel_rfl) (fun _ _ _ h => h) (Or.inl ⟨by rfl, ?_⟩) hHeld ?_
    rotate_left
    · (intro w hSw; (try dsimp only at hSw); go_simp; try with_reducible rfl)
    try simp only [Act.put, List.setIfInBounds_toArray, List.set_cons_zero, List.set_cons_succ]
    refine wpAnyH_take (i := 1) (v := ?_) rfl (by kernel_rfl) (by kernel_rfl) (by kernel_rfl) (fun _ _ _ h => h) (Or.inl ⟨by rfl, ?_⟩) hHeld ?_
    rotate_left
    · (intro w hSw; (try dsimp only at hSw); go_simp; try with_reducible rfl)
    try simp only [Act.put, List.setIfInBounds_toArray, List.set_cons_zero, List.set_cons_succ]
    refine wpAnyH_take (i := 2) (v := ?_) rfl (by kernel_rfl) (by kernel_rfl) (by kernel_rfl) (fun _ _ _ h => h) (Or.inl ⟨by rfl, ?_⟩) hHeld ?_
    rotate_left
    · (intro w hSw; (try dsimp only at hSw); go_simp; try with_reducible rfl)
    try simp only [Act.put, List.setIfInBounds_toArray, List.set_cons_zero, List.set_cons_succ]
    refine wpAnyH_take (i := 3) (v := ?_) rfl (by kernel_rfl) (by kernel_rfl) (by kernel_rfl) (fun _ _ _ h => h) (Or.inl ⟨by rfl, ?_⟩) hHeld ?_
    rotate_left
    · (intro w hSw; (try dsimp only at hSw); go_simp; try with_reducible rfl)
    try simp only [Act.put, List.setIfInBounds_toArray, List.set_cons_zero, List.set_cons_succ]
    refine wpAnyH_take (i := 4) (v := ?_) rfl (by kernel_rfl) (by kernel_rfl) (by kernel_rfl) (fun _ _ _ h => h) (Or.inl ⟨by rfl, ?_⟩) hHeld ?_
    rotate_left
    · (intro w hSw; (try dsimp only at hSw); go_simp; try with_reducible rfl)
    try simp only [Act.put, List.setIfInBounds_toArray, List.set_cons_zero, List.set_cons_succ]
    refine wpAnyH_take (i := 5) (v := ?_) rfl (by kernel_rfl) (by kernel_rfl) (by kernel_rfl) (fun _ _ _ h => h) (Or.inl ⟨by rfl, ?_⟩) hHeld ?_
    rotate_left
    · (intro w hSw; (try dsimp only at hSw); go_simp; try with_reducible rfl)
    try simp only [Act.put, List.setIfInBounds_toArray, List.set_cons_zero, List.set_cons_succ]
    refine wpAnyH_take (i := 6) (v := ?_) rfl (by kernel_rfl) (by kernel_rfl) (by kernel_rfl) (fun _ _ _ h => h) (Or.inl ⟨by rfl, ?_⟩) hHeld ?_
    rotate_left
    · (intro w hSw; (try dsimp only at hSw); go_simp; try with_reducible rfl)
    try simp only [Act.put, List.setIfInBounds_toArray, List.set_cons_zero, List.set_cons_succ]
    refine wpAnyH_take (i := 7) (v := ?_) rfl (by kernel_rfl) (by kernel_rfl) (by kernel_rfl) (fun _ _ _ h => h) (Or.inl ⟨by rfl, ?_⟩) hHeld ?_
    rotate_left
    · (intro w hSw; (try dsimp only at hSw); go_simp; try with_reducible rfl)
    try simp only [Act.put, List.setIfInBounds_toArray, List.set_cons_zero, List.set_cons_succ]
    refine wpAnyH_take (i := 8) (v := ?_) rfl (by kernel_rfl) (by kernel_rfl) (by kernel_rfl) (fun _ _ _ h => h) (Or.inl ⟨by rfl, ?_⟩) hHeld ?_
    rotate_left
    · (intro w hSw; (try dsimp only at hSw); go_simp; try with_reducible rfl)
    try simp only [Act.put, List.setIfInBounds_toArray, List.set_cons_zero, List.set_cons_succ]
    refine wpAnyH_take (i := 9) (v := ?_) rfl (by kernel_rfl) (by kernel_rfl) (by kernel_rfl) (fun _ _ _ h => h) (Or.inl ⟨by rfl, ?_⟩) hHeld ?_
    rotate_left
    · (intro w hSw; (try dsimp only at hSw); go_simp; try with_reducible rfl)
    try simp only [Act.put, List.setIfInBounds_toArray, List.set_cons_zero, List.set_cons_succ]
    refine wpAnyH_take (i := 10) (v := ?_) rfl (by kernel_rfl) (by kernel_rfl) (by kernel_rfl) (fun _ _ _ h => h) (Or.inl ⟨by rfl, ?_⟩) hHeld ?_
    rotate_left
    · (intro w hSw; (try dsimp only at hSw); go_simp; try with_reducible rfl)
    try simp only [Act.put, List.setIfInBounds_toArray, List.set_cons_zero, List.set_cons_succ]
    refine wpAnyH_take (i := 11) (v := ?_) rfl (by kernel_rfl) (by kernel_rfl) (by kernel_rfl) (fun _ _ _ h => h) (Or.inl ⟨by rfl, ?_⟩) hHeld ?_
    rotate_left
    · (intro w hSw; (try dsimp only at hSw); go_simp; try with_reducible rfl)
    try simp only [Act.put, List.setIfInBounds_toArray, List.set_cons_zero, List.set_cons_succ]
    refine wpAnyH_take (i := 12) (v := ?_) rfl (by kernel_rfl) (by kernel_rfl) (by kernel_rfl) (fun _ _ _ h => h) (Or.inl ⟨by rfl, ?_⟩) hHeld ?_
    rotate_left
    · (intro w hSw; (try dsimp only at hSw); go_simp; try with_reducible rfl)
    try simp only [Act.put, List.setIfInBounds_toArray, List.set_cons_zero, List.set_cons_succ]
    refine wpAnyH_take (i := 13) (v := ?_) rfl (by kernel_rfl) (by kernel_rfl) (by kernel_rfl) (fun _ _ _ h => h) (Or.inl ⟨by rfl, ?_⟩) hHeld ?_
    rotate_left
    · (intro w hSw; (try dsimp only at hSw); go_simp; try with_reducible rfl)
    try simp only [Act.put, List.setIfInBounds_toArray, List.set_cons_zero, List.set_cons_succ]
    refine wpAnyH_take (i := 14) (v := ?_) rfl (by kernel_rfl) (by kernel_rfl) (by kernel_rfl) (fun _ _ _ h => h) (Or.inl ⟨by rfl, ?_⟩) hHeld ?_
    rotate_left
    · (intro w hSw; (try dsimp only at hSw); go_simp; try with_reducible rfl)
    try simp only [Act.put, List.setIfInBounds_toArray, List.set_cons_zero, List.set_cons_succ]
    refine wpAnyH_ready (rs := [15]) (by kernel_rfl) (by simp) ?_
    refine AllReadyH.cons rfl (fun K hK => ?_) AllReadyH.nil
    go_simp
    refine hK.out _ _ ⟨a11, a21⟩ (fun hHeld => ?_)
    clear hK K
    try simp only [Act.put, List.setIfInBounds_toArray, List.set_cons_zero, List.set_cons_succ]
    refine wpAnyH_ready (rs := [16]) (by kernel_rfl) (by simp) ?_
    refine AllReadyH.cons rfl (fun K hK => ?_) AllReadyH.nil
    go_simp
    refine (writable2 base c r.own s σ ph _ hFH1.out.pd hs hFH1.out.no (by omega) (by omega) (by omega) hsz1).mono ?_
    rintro e w1 ⟨c', ph', rfl, hg1, hor, hp1, hph, hfr⟩
    have hg2 : w.grownBy w1 none := grown_trans (grown_drew (grown_refl w none)) hg1
    obtain ⟨q1, q2, q3, q4⟩ := hFH1.out.far w1 hg2
    go_wp2_with fail
    refine hK.out _ _ ⟨q2, q3⟩ (fun hHeld => ?_)
    clear hK K
    try simp only [Act.put, List.setIfInBounds_toArray, List.set_cons_zero, List.set_cons_succ]
    refine wpAnyH_take (i := 17) (v := ?_) rfl (by kernel_rfl) (by kernel_rfl) (by kernel_rfl) (fun _ _ _ h => h) (Or.inl ⟨by rfl, ?_⟩) hHeld ?_
    rotate_left
    · (intro w hSw; (try dsimp only at hSw); go_simp; try with_reducible rfl)
    try simp only [Act.put, List.setIfInBounds_toArray, List.set_cons_zero, List.set_cons_succ]
    refine wpAnyH_ready (rs := [18]) (by kernel_rfl) (by simp) ?_
    refine AllReadyH.cons rfl (fun K hK => ?_) AllReadyH.nil
    go_simp
    refine hK.out _ _ ⟨cell_off hFH1.out.gn q2, cell_off hFH1.out.gn q3⟩ (fun hHeld => ?_)
    clear hK K
    try simp only [Act.put, List.setIfInBounds_toArray, List.set_cons_zero, List.set_cons_succ]
    refine wpAnyH_done (by kernel_rfl) ?_ _
    go_wp2_with fail
    go_meet
    go_light
    have hcn' : c' ≠ n := by
      rcases hor with h | h
      · rw [h.1]; exact hcn
      · exact fun e => by rw [e, hr] at h; cases h
    have hcw := hFH1.out.fin w1 c' _ ph' hg2 hp1 hph hcn' hsz1
    exact ⟨c', hor, hcn', hcw.1, hM0.trans ⟨hcw.2, KC.of_eq (hFH1.out.kc w1 _ hg2)⟩, nb_cow hFH1.out hr hN0 hg2 hp1 hcn' hph hfr⟩
  case rest =>
    obtain ⟨c1', hor1, hcn1, hR1, hM1, hN1⟩ := hcut
    clear hFH1 hpH1 a11 a21 a31 a41 hsz1
    have hR := hide hR1; have hN1H := hide hN1
    clear hN1
    obtain ⟨ph1, hp1⟩ := hR1
    obtain ⟨r1, hr1⟩ : ∃ r1 : Nd, r1 = { r with cs := r.cs.set i c1' } := ⟨_, rfl⟩
    obtain ⟨s1, hs1⟩ : ∃ s1 : Nd, s1 = { s with own := r.own } := ⟨_, rfl⟩
    rw [← hr1, ← hs1] at hp1
    have hn1 : upd (upd σ c1' s1) n r1 n = some r1 := upd_same _ _ _
    have hc1 : upd (upd σ c1' s1) n r1 c1' = some s1 := by rw [upd_other _ _ _ hcn1, upd_same]
    have hl1 : r1.cs.length = r.cs.length := by rw [hr1]; simp
    have hse1 : s1.es.length = s.es.length := by rw [hs1]
    obtain ⟨gc, capc, hvc, hlc, hlm, hgcl⟩ := ownsRow_pos (hp1.nd n r1 hn1).kids (by omega)
    obtain ⟨gs, caps, hvs, hls, hlsm, hgsl⟩ := ownsRow_pos (hp1.nd c1' s1 hc1).ents (by omega)
    have k0 := kid_cell hp1 hn1 hvc i (by omega)
    have hg : r1.cs.getD i 0 = c1' := by rw [hr1]; simp [List.getD, hi]
    rw [hg] at k0
    have c1 := hp1.c1 hn1
    rw [hvc] at c1
    have d0 := hp1.c0 hc1
    rw [hvs] at d0
    obtain ⟨L1, hL1⟩ : ∃ L1, L1 = r1.cs.length := ⟨_, rfl⟩
    obtain ⟨E1, hE1⟩ : ∃ E1, E1 = s1.es.length := ⟨_, rfl⟩
    rw [← hL1] at c1
    rw [← hE1] at d0
    have b1 : (i : Int) < (L1 : Int) := by omega
    have b2 : (15 : Int) < (E1 : Int) := by omega
    clear hp1 hvc hvs hL1 hE1 hr1 hs1 hg hl1 hse1 hn1 hc1
    go_wp2_with fail
    go_ret
    exact ⟨c1', rfl, hor1, hcn1, hR.out, hM1, hN1H.out⟩

end Go.Proofs.Qxb6001038a
