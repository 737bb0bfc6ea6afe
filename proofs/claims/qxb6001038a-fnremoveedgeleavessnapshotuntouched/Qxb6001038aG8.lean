import Derived.Test.Qxb6001038aG7
import Derived.Deep.CutRange
namespace Go.Proofs.Qxb6001038a
open Go.RowKit
set_option linter.unusedVariables false
set_option linter.unusedSimpArgs false
attribute [local go_sem ↓] Go.wp_at_zero Go.wp_at_succ

set_option maxHeartbeats 8000000 in
set_option maxRecDepth 100000 in
/-- merge. -/
theorem merge_any (B : Option Nat) (base n h lo hi c d : Nat) (ii : Int) (k p : Nat) (r s t : Nd) (σ : Nat → Option Nd) (w : World) (hii : ii = k) (hip : p = k + 1) (hR : Rep base w σ) (hN0 : NB B w σ) (hr : σ n = some r) (hk : Kids (Sub σ h) r.cs r.es lo hi) (hkr : k < r.es.length) (hre : r.es.length ≤ 31)
    (hc : r.cs.getD k 0 = c) (hs : σ c = some s) (hcn : c ≠ n) (hl : r.cs.getD p 0 = d) (ht : σ d = some t) (hdn : d ≠ n) (hsl : s.es.length = 15) (htl : t.es.length = 15)
    (hsc : s.cs.length = (if h = 0 then 0 else s.es.length + 1)) (htc : t.cs.length = (if h = 0 then 0 else t.es.length + 1)) (hbase : base ≤ w.heap.size) :
    Calls Try.prog 48 #[.pointer (some ⟨n, 0, none⟩), .int .i64 ii] w fun e w' => e = .returned (.tuple #[]) ∧ ∀ i, i = k ∨ i = k + 1 → GrowPost B base w σ n r h lo hi i (.returned (.int .i64 k)) w' := by
  subst hii
  obtain ⟨ph, hp⟩ := hR
  have hM0 := MutC.refl base n w
  have hlen := kids_len hk
  have hsc1 : s.cs.length < 100 := by rw [hsc]; split <;> omega
  have htc1 : t.cs.length < 100 := by rw [htc]; split <;> omega
  have hwm : IntKind.i64.wrap ((k : Int) + 1) = p := by rw [hip]; exact wrap_nat (k + 1) (by omega)
  have hwn : IntKind.i64.wrap (p : Int) = p := wrap_nat p (by omega)
  have hwq : IntKind.i64.wrap ((k : Int) + 2) = (p : Int) + 1 := by rw [hip]; exact wrap_nat (k + 2) (by omega)
  have hgoal := hide hk; have hscH := hide hsc; have htcH := hide htc
  have hipH := hide hip; have hlenH := hide hlen; have hkL : k < r.cs.length := by omega
  have hrc1 : r.cs.length < 100 := by omega
  clear hk hsc htc hip hlen
  go_enter Try.func48, Try.ntmps48
  obtain ⟨L1, hL1⟩ : ∃ L, L = r.cs.length := ⟨_, rfl⟩
  obtain ⟨gc1, cap1, hF1⟩ := cowF hp hr hkL hc hL1
  have a11 := hF1.c1; have a21 := hF1.c2; have a31 := hF1.k0; have a41 : (k : Int) < (L1 : Int) := by have := hF1.lt; omega

  have hFH1 := hide hF1; have hpH1 := hide hp
  have hsz1 : base ≤ w.drew.heap.size := Nat.le_trans hbase hM0.size
  clear hF1 hp hL1
  go_upto_region 0 with fail
  go_cut [23] from 6 to 22 (fun v w' => ∃ c', ((c' = c ∧ s.own = r.own) ∨ σ c' = none) ∧ c' ≠ n ∧ Rep base w' (upd (upd σ c' { s with own := r.own }) n { r with cs := r.cs.set (k) c' }) ∧ MutC base n w w' ∧ NB B w' (upd (upd σ c' { s with own := r.own }) n { r with cs := r.cs.set (k) c' }))
  case first =>
    refine wp_region_held_drew (S := fun w' => w'.cell? ⟨n, 1, none⟩ = some (.slice (some ⟨gc1, 0, none⟩) L1 cap1) ∧ w'.cell? ⟨n, 2, none⟩ = some (.pointer (some ⟨r.own, 0, none⟩))) (by kernel_rfl) ⟨a11, a21⟩ (fun hHeld => ?_)
    refine wpAnyH_take (i := 0) (v := ?_) rfl (by kernel_rfl) (by kernel_rfl) (by kernel_rfl) (fun _ _ _ h => h) (Or.inl ⟨by rfl, ?_⟩) hHeld ?_
    rotate_left
    · (intro w hSw; (try dsimp only at hSw); go_simp; try with_reducible rfl)
    try simp only [Act.put, List.setIfInBounds_toArray, List.set_cons_zero, List.set_cons_succ]
    refine wpAnyH_take (i := 1) (v := ?_) rfl (by kernel_rfl) (by kernel_rfl) (by kernel_rfl) (fun _ _ _ h => h) (Or.inl ⟨by rfl, ?_⟩) hHeld ?_
    rotate_left
    · (intro w hSw; (try dsimp only at hSw); go_simp; try with_reducible rfl)
    try simp only [Act.put, List.setIfInBounds_toArray, List.set_cons_zero, List.set_cons_succ]
    refine wpAnyH_take (i := 2) (v := ?_) rfl (by kernel_rfl) (by kernel_rfl) (by kernel_rfl) (fun _ _ _ h => h) (Or.inl ⟨by rfl, ?_⟩) hHeld ?_
    rotate_left
    · (intro w hSw; (try dsimp only at hSw); go_simp; try with_reducible rfl)
    try simp only [Act.put, List.setIfInBounds_toArray, List.set_cons_zero, List.set_cons_succ]
    refine wpAnyH_take (i := 3) (v := ?_) rfl (by kernel_rfl) (by kernel_rfl) (by kernel_rfl) (fun _ _ _ h => h) (Or.inl ⟨by rfl, ?_⟩) hHeld ?_
    rotate_left
    · (intro w hSw; (try dsimp only at hSw); go_simp; try with_reducible rfl)
    try simp only [Act.put, List.setIfInBounds_toArray, List.set_cons_zero, List.set_cons_succ]
    refine wpAnyH_take (i := 4) (v := ?_) rfl (by kernel_rfl) (by kernel_rfl) (by kernel_rfl) (fun _ _ _ h => h) (Or.inl ⟨by rfl, ?_⟩) hHeld ?_
    rotate_left
    · (intro w hSw; (try dsimp only at hSw); go_simp; try with_reducible rfl)
    try simp only [Act.put, List.setIfInBounds_toArray, List.set_cons_zero, List.set_cons_succ]
    refine wpAnyH_take (i := 5) (v := ?_) rfl (by kernel_rfl) (by kernel_rfl) (by kernel_rfl) (fun _ _ _ h => h) (Or.inl ⟨by rfl, ?_⟩) hHeld ?_
    rotate_left
    · (intro w hSw; (try dsimp only at hSw); go_simp; try with_reducible rfl)
    try simp only [Act.put, List.setIfInBounds_toArray, List.set_cons_zero, List.set_cons_succ]
    refine wpAnyH_take (i := 6) (v := ?_) rfl (by kernel_rfl) (by kernel_rfl) (by kernel_rfl) (fun _ _ _ h => h) (Or.inl ⟨by rfl, ?_⟩) hHeld ?_
    rotate_left
    · (intro w hSw; (try dsimp only at hSw); go_simp; try with_reducible rfl)
    try simp only [Act.put, List.setIfInBounds_toArray, List.set_cons_zero, List.set_cons_succ]
    refine wpAnyH_take (i := 7) (v := ?_) rfl (by kernel_rfl) (by kernel_rfl) (by kernel_rfl) (fun _ _ _ h => h) (Or.inl ⟨by rfl, ?_⟩) hHeld ?_
    rotate_left
    · (intro w hSw; (try dsimp only at hSw); go_simp; try with_reducible rfl)
    try simp only [Act.put, List.setIfInBounds_toArray, List.set_cons_zero, List.set_cons_succ]
    refine wpAnyH_take (i := 8) (v := ?_) rfl (by kernel_rfl) (by kernel_rfl) (by kernel_rfl) (fun _ _ _ h => h) (Or.inl ⟨by rfl, ?_⟩) hHeld ?_
    rotate_left
    · (intro w hSw; (try dsimp only at hSw); go_simp; try with_reducible rfl)
    try simp only [Act.put, List.setIfInBounds_toArray, List.set_cons_zero, List.set_cons_succ]
    refine wpAnyH_take (i := 9) (v := ?_) rfl (by kernel_rfl) (by kernel_rfl) (by kernel_rfl) (fun _ _ _ h => h) (Or.inl ⟨by rfl, ?_⟩) hHeld ?_
    rotate_left
    · (intro w hSw; (try dsimp only at hSw); go_simp; try with_reducible rfl)
    try simp only [Act.put, List.setIfInBounds_toArray, List.set_cons_zero, List.set_cons_succ]
    refine wpAnyH_take (i := 10) (v := ?_) rfl (by kernel_rfl) (by kernel_rfl) (by kernel_rfl) (fun _ _ _ h => h) (Or.inl ⟨by rfl, ?_⟩) hHeld ?_
    rotate_left
    · (intro w hSw; (try dsimp only at hSw); go_simp; try with_reducible rfl)
    try simp only [Act.put, List.setIfInBounds_toArray, List.set_cons_zero, List.set_cons_succ]
    refine wpAnyH_take (i := 11) (v := ?_) rfl (by kernel_rfl) (by kernel_rfl) (by kernel_rfl) (fun _ _ _ h => h) (Or.inl ⟨by rfl, ?_⟩) hHeld ?_
    rotate_left
    · (intro w hSw; (try dsimp only at hSw); go_simp; try with_reducible rfl)
    try simp only [Act.put, List.setIfInBounds_toArray, List.set_cons_zero, List.set_cons_succ]
    refine wpAnyH_take (i := 12) (v := ?_) rfl (by kernel_rfl) (by kernel_rfl) (by kernel_rfl) (fun _ _ _ h => h) (Or.inl ⟨by rfl, ?_⟩) hHeld ?_
    rotate_left
    · (intro w hSw; (try dsimp only at hSw); go_simp; try with_reducible rfl)
    try simp only [Act.put, List.setIfInBounds_toArray, List.set_cons_zero, List.set_cons_succ]
    refine wpAnyH_take (i := 13) (v := ?_) rfl (by kernel_rfl) (by kernel_rfl) (by kernel_rfl) (fun _ _ _ h => h) (Or.inl ⟨by rfl, ?_⟩) hHeld ?_
    rotate_left
    · (intro w hSw; (try dsimp only at hSw); go_simp; try with_reducible rfl)
    try simp only [Act.put, List.setIfInBounds_toArray, List.set_cons_zero, List.set_cons_succ]
    refine wpAnyH_take (i := 14) (v := ?_) rfl (by kernel_rfl) (by kernel_rfl) (by kernel_rfl) (fun _ _ _ h => h) (Or.inl ⟨by rfl, ?_⟩) hHeld ?_
    rotate_left
    · (intro w hSw; (try dsimp only at hSw); go_simp; try with_reducible rfl)
    try simp only [Act.put, List.setIfInBounds_toArray, List.set_cons_zero, List.set_cons_succ]
    refine wpAnyH_ready (rs := [15]) (by kernel_rfl) (by simp) ?_
    refine AllReadyH.cons rfl (fun K hK => ?_) AllReadyH.nil
    go_simp
    refine hK.out _ _ ⟨a11, a21⟩ (fun hHeld => ?_)
    clear hK K
    try simp only [Act.put, List.setIfInBounds_toArray, List.set_cons_zero, List.set_cons_succ]
    refine wpAnyH_ready (rs := [16]) (by kernel_rfl) (by simp) ?_
    refine AllReadyH.cons rfl (fun K hK => ?_) AllReadyH.nil
    go_simp
    refine (writable2 base c r.own s σ ph _ hFH1.out.pd hs hFH1.out.no (by omega) (by omega) (by omega) hsz1).mono ?_
    rintro e w1 ⟨c', ph', rfl, hg1, hor, hp1, hph, hfr⟩
    have hg2 : w.grownBy w1 none := grown_trans (grown_drew (grown_refl w none)) hg1
    obtain ⟨q1, q2, q3, q4⟩ := hFH1.out.far w1 hg2
    go_wp2_with fail
    refine hK.out _ _ ⟨q2, q3⟩ (fun hHeld => ?_)
    clear hK K
    try simp only [Act.put, List.setIfInBounds_toArray, List.set_cons_zero, List.set_cons_succ]
    refine wpAnyH_take (i := 17) (v := ?_) rfl (by kernel_rfl) (by kernel_rfl) (by kernel_rfl) (fun _ _ _ h => h) (Or.inl ⟨by rfl, ?_⟩) hHeld ?_
    rotate_left
    · (intro w hSw; (try dsimp only at hSw); go_simp; try with_reducible rfl)
    try simp only [Act.put, List.setIfInBounds_toArray, List.set_cons_zero, List.set_cons_succ]
    refine wpAnyH_ready (rs := [18]) (by kernel_rfl) (by simp) ?_
    refine AllReadyH.cons rfl (fun K hK => ?_) AllReadyH.nil
    go_simp
    refine hK.out _ _ ⟨cell_off hFH1.out.gn q2, cell_off hFH1.out.gn q3⟩ (fun hHeld => ?_)
    clear hK K
    try simp only [Act.put, List.setIfInBounds_toArray, List.set_cons_zero, List.set_cons_succ]
    refine wpAnyH_done (by kernel_rfl) ?_ _
    go_wp2_with fail
    go_meet
    go_light
    have hcn' : c' ≠ n := by
      rcases hor with h | h
      · rw [h.1]; exact hcn
      · exact fun e => by rw [e, hr] at h; cases h
    have hcw := hFH1.out.fin w1 c' _ ph' hg2 hp1 hph hcn' hsz1
    exact ⟨c', hor, hcn', hcw.1, hM0.trans ⟨hcw.2, KC.of_eq (hFH1.out.kc w1 _ hg2)⟩, nb_cow hFH1.out hr hN0 hg2 hp1 hcn' hph hfr⟩
  case rest =>
    obtain ⟨c1, hor1, hcn1, hR1, hM1, hN1⟩ := hcut
    clear hFH1 hpH1 a11 a21 a31 a41 hsz1 
    rename World => W1
    obtain ⟨σ1, r1, s1, hσ1, hr1d, hs1d, hn1, hcs1, hk1, hkp1, hre1, hro1, hrl1, hg1, hse1, hsc1', hso1, hoth1, hf1⟩ := cow_next hr hgoal.out (by omega) (by omega) hc hs hor1 hcn1
    rw [← hσ1] at hR1 hN1
    have hl1 : r1.cs.getD p 0 = d := by rw [hoth1 p (by have := hipH.out; omega)]; exact hl
    have ht1 : σ1 d = some t := hf1 d t hdn ht
    obtain ⟨ph1, hp1⟩ := hR1
    have hpL : p < r1.cs.length := by have := hipH.out; have := hlenH.out; omega
    have hkL1 : k < r1.cs.length := by omega
    have hkE1 : k < r1.es.length := by rw [hre1]; exact hkr
    have hne1 : d ≠ c1 := by
      have := kid_two hn1 hk1 hkE1
      rw [hg1, show k + 1 = p from hipH.out.symm, hl1] at this
      exact Ne.symm this
    have hs15 : s1.es.length = 15 := by rw [hse1]; exact hsl
    have hrl1' : r1.cs.length < 100 := by omega
    have hre1' : r1.es.length ≤ 31 := by rw [hre1]; exact hre
    obtain ⟨j, hj⟩ : ∃ j, r1.es.length = j + 1 := ⟨r1.es.length - 1, by omega⟩
    have hjc : r1.cs.length = j + 1 + 1 := by have := hlenH.out; have := hrl1; rw [hre1] at hj; omega
    have hj31 : j < 31 := by omega
    have hkj : k ≤ j := by omega
    have hb1 : base ≤ W1.heap.size := Nat.le_trans hbase hM1.size
    have hkH1 := hide hk1; have hkpH1 := hide hkp1; have hothH1 := hide hoth1; have hfH1 := hide hf1; have hseH1 := hide hse1; have hscH1 := hide hsc1'; have hreH1 := hide hre1; have hroH1 := hide hro1; have hsoH1 := hide hso1; have hg1H := hide hg1; have hl1H := hide hl1; have hjH := hide hj; have hjcH := hide hjc; have hs15H := hide hs15; have hslH := hide hsl; have htlH := hide htl
    clear hσ1 hr1d hs1d hk1 hkp1 hoth1 hf1 hse1 hsc1' hre1 hl hc hrl1 hro1 hso1 hor1 hg1 hl1 hj hjc hs15 hsl htl
    obtain ⟨kk3, hkk3⟩ : ∃ kk, r1.es.getD k 0 = kk := ⟨_, rfl⟩
    obtain ⟨E3, hE3⟩ : ∃ E, E = s1.es.length := ⟨_, rfl⟩
    obtain ⟨L3, hL3⟩ : ∃ L, L = r1.es.length := ⟨_, rfl⟩
    obtain ⟨gs3, caps3, gn3, capn3, hF3⟩ := entF hp1 hn1 hcs1 hcn1 hkE1 (by rw [hs15H.out]; omega) hb1 hkk3 hE3 hL3
    obtain ⟨gd3, capd3, d13, d23⟩ := mrgE hp1 hcs1 ht1 hne1 (by rw [htlH.out]; omega) hF3.d0
    obtain ⟨T3, hT3⟩ : ∃ T, T = t.es.length := ⟨_, rfl⟩
    rw [← hT3] at d13 d23
    have e13 := hF3.d0; have e23 := hF3.c0; have e33 := hF3.k0; have e43 := hF3.k1; have e53 := hF3.k2; have e63 := hF3.k3
    have e73 : (k : Int) < (L3 : Int) := by have := hF3.lt; omega
    have hE15 : E3 = 15 := by rw [hE3]; exact hs15H.out
    have hT15 : T3 = 15 := by rw [hT3]; exact htlH.out
    have hE100 : E3 < 100 := by omega
    have hT100 : T3 < 100 := by omega
    have hT0 : 0 < T3 := by omega
    have e93 : ∀ o, (W1.alloc o).cell? ⟨c1, 0, none⟩ = some (.slice (some ⟨gs3, 0, none⟩) E3 caps3) := fun o => (hF3.far _ (grown_alloc o _)).2.1
    obtain ⟨gx3, capx3, hvx3, hlx3, hlmx3, hgx3⟩ := ownsRow_pos (hp1.nd n r1 hn1).kids (by omega)
    obtain ⟨Lc, hLc⟩ : ∃ L, L = r1.cs.length := ⟨_, rfl⟩
    have b1 := kid_cell hp1 hn1 hvx3 p hpL
    rw [hl1H.out] at b1
    have b0 := kid_cell hp1 hn1 hvx3 k hkL1
    rw [hg1H.out] at b0
    have b2 := hp1.c1 hn1
    rw [hvx3, ← hLc] at b2
    have b4 : (p : Int) < (Lc : Int) := by omega
    have b5 : (k : Int) < (Lc : Int) := by omega
    have hFH3 := hide hF3; have hpH3 := hide hp1; have hkk3H := hide hkk3; have hE3H := hide hE3; have d23H := hide d23; have hT3H := hide hT3
    clear hF3 hp1 hvx3 hlx3 hlmx3 hgx3 hkk3 hE3 hL3 hLc d23 hT3 hE15 hT15
    go_upto_region 1 with fail
    refine wp_region_held_drew (S := fun w' => w'.cell? ⟨n, 1, none⟩ = some (.slice (some ⟨gx3, 0, none⟩) Lc capx3) ∧ w'.cell? ⟨gx3, k, none⟩ = some (.pointer (some ⟨c1, 0, none⟩)) ∧ w'.cell? ⟨gx3, p, none⟩ = some (.pointer (some ⟨d, 0, none⟩))) (by kernel_rfl) ⟨b2, b0, b1⟩ (fun hHeld => ?_)
    refine wpAnyH_take (i := 0) (v := ?_) rfl (by kernel_rfl) (by kernel_rfl) (by kernel_rfl) (fun _ _ _ h => h) (Or.inl ⟨by rfl, ?_⟩) hHeld ?_
    rotate_left
    · (intro w hSw; (try dsimp only at hSw); go_simp; try with_reducible rfl)
    try simp only [Act.put, List.setIfInBounds_toArray, List.set_cons_zero, List.set_cons_succ]
    refine wpAnyH_take (i := 1) (v := ?_) rfl (by kernel_rfl) (by kernel_rfl) (by kernel_rfl) (fun _ _ _ h => h) (Or.inl ⟨by rfl, ?_⟩) hHeld ?_
    rotate_left
    · (intro w hSw; (try dsimp only at hSw); go_simp; try with_reducible rfl)
    try simp only [Act.put, List.setIfInBounds_toArray, List.set_cons_zero, List.set_cons_succ]
    refine wpAnyH_take (i := 2) (v := ?_) rfl (by kernel_rfl) (by kernel_rfl) (by kernel_rfl) (fun _ _ _ h => h) (Or.inl ⟨by rfl, ?_⟩) hHeld ?_
    rotate_left
    · (intro w hSw; (try dsimp only at hSw); go_simp; try with_reducible rfl)
    try simp only [Act.put, List.setIfInBounds_toArray, List.set_cons_zero, List.set_cons_succ]
    refine wpAnyH_take (i := 3) (v := ?_) rfl (by kernel_rfl) (by kernel_rfl) (by kernel_rfl) (fun _ _ _ h => h) (Or.inl ⟨by rfl, ?_⟩) hHeld ?_
    rotate_left
    · (intro w hSw; (try dsimp only at hSw); go_simp; try with_reducible rfl)
    try simp only [Act.put, List.setIfInBounds_toArray, List.set_cons_zero, List.set_cons_succ]
    refine wpAnyH_take (i := 4) (v := ?_) rfl (by kernel_rfl) (by kernel_rfl) (by kernel_rfl) (fun _ _ _ h => h) (Or.inl ⟨by rfl, ?_⟩) hHeld ?_
    rotate_left
    · (intro w hSw; (try dsimp only at hSw); go_simp; try with_reducible rfl)
    try simp only [Act.put, List.setIfInBounds_toArray, List.set_cons_zero, List.set_cons_succ]
    refine wpAnyH_take (i := 5) (v := ?_) rfl (by kernel_rfl) (by kernel_rfl) (by kernel_rfl) (fun _ _ _ h => h) (Or.inl ⟨by rfl, ?_⟩) hHeld ?_
    rotate_left
    · (intro w hSw; (try dsimp only at hSw); go_simp; try with_reducible rfl)
    try simp only [Act.put, List.setIfInBounds_toArray, List.set_cons_zero, List.set_cons_succ]
    refine wpAnyH_take (i := 6) (v := ?_) rfl (by kernel_rfl) (by kernel_rfl) (by kernel_rfl) (fun _ _ _ h => h) (Or.inl ⟨by rfl, ?_⟩) hHeld ?_
    rotate_left
    · (intro w hSw; (try dsimp only at hSw); go_simp; try with_reducible rfl)
    try simp only [Act.put, List.setIfInBounds_toArray, List.set_cons_zero, List.set_cons_succ]
    refine wpAnyH_take (i := 7) (v := ?_) rfl (by kernel_rfl) (by kernel_rfl) (by kernel_rfl) (fun _ _ _ h => h) (Or.inl ⟨by rfl, ?_⟩) hHeld ?_
    rotate_left
    · (intro w hSw; (try dsimp only at hSw); go_simp; try with_reducible rfl)
    try simp only [Act.put, List.setIfInBounds_toArray, List.set_cons_zero, List.set_cons_succ]
    refine wpAnyH_take (i := 8) (v := ?_) rfl (by kernel_rfl) (by kernel_rfl) (by kernel_rfl) (fun _ _ _ h => h) (Or.inl ⟨by rfl, ?_⟩) hHeld ?_
    rotate_left
    · (intro w hSw; (try dsimp only at hSw); go_simp; try with_reducible rfl)
    try simp only [Act.put, List.setIfInBounds_toArray, List.set_cons_zero, List.set_cons_succ]
    refine wpAnyH_take (i := 9) (v := ?_) rfl (by kernel_rfl) (by kernel_rfl) (by kernel_rfl) (fun _ _ _ h => h) (Or.inl ⟨by rfl, ?_⟩) hHeld ?_
    rotate_left
    · (intro w hSw; (try dsimp only at hSw); go_simp; try with_reducible rfl)
    try simp only [Act.put, List.setIfInBounds_toArray, List.set_cons_zero, List.set_cons_succ]
    refine wpAnyH_take (i := 10) (v := ?_) rfl (by kernel_rfl) (by kernel_rfl) (by kernel_rfl) (fun _ _ _ h => h) (Or.inl ⟨by rfl, ?_⟩) hHeld ?_
    rotate_left
    · (intro w hSw; (try dsimp only at hSw); go_simp; try with_reducible rfl)
    try simp only [Act.put, List.setIfInBounds_toArray, List.set_cons_zero, List.set_cons_succ]
    refine wpAnyH_take (i := 11) (v := ?_) rfl (by kernel_rfl) (by kernel_rfl) (by kernel_rfl) (fun _ _ _ h => h) (Or.inl ⟨by rfl, ?_⟩) hHeld ?_
    rotate_left
    · (intro w hSw; (try dsimp only at hSw); go_simp; try with_reducible rfl)
    try simp only [Act.put, List.setIfInBounds_toArray, List.set_cons_zero, List.set_cons_succ]
    refine wpAnyH_take (i := 12) (v := ?_) rfl (by kernel_rfl) (by kernel_rfl) (by kernel_rfl) (fun _ _ _ h => h) (Or.inl ⟨by rfl, ?_⟩) hHeld ?_
    rotate_left
    · (intro w hSw; (try dsimp only at hSw); go_simp; try with_reducible rfl)
    try simp only [Act.put, List.setIfInBounds_toArray, List.set_cons_zero, List.set_cons_succ]
    refine wpAnyH_take (i := 13) (v := ?_) rfl (by kernel_rfl) (by kernel_rfl) (by kernel_rfl) (fun _ _ _ h => h) (Or.inl ⟨by rfl, ?_⟩) hHeld ?_
    rotate_left
    · (intro w hSw; (try dsimp only at hSw); go_simp; try with_reducible rfl)
    try simp only [Act.put, List.setIfInBounds_toArray, List.set_cons_zero, List.set_cons_succ]
    refine wpAnyH_take (i := 14) (v := ?_) rfl (by kernel_rfl) (by kernel_rfl) (by kernel_rfl) (fun _ _ _ h => h) (Or.inl ⟨by rfl, ?_⟩) hHeld ?_
    rotate_left
    · (intro w hSw; (try dsimp only at hSw); go_simp; try with_reducible rfl)
    try simp only [Act.put, List.setIfInBounds_toArray, List.set_cons_zero, List.set_cons_succ]
    refine wpAnyH_take (i := 15) (v := ?_) rfl (by kernel_rfl) (by kernel_rfl) (by kernel_rfl) (fun _ _ _ h => h) (Or.inl ⟨by rfl, ?_⟩) hHeld ?_
    rotate_left
    · (intro w hSw; (try dsimp only at hSw); go_simp; try with_reducible rfl)
    try simp only [Act.put, List.setIfInBounds_toArray, List.set_cons_zero, List.set_cons_succ]
    refine wpAnyH_ready (rs := [16]) (by kernel_rfl) (by simp) ?_
    refine AllReadyH.cons rfl (fun K hK => ?_) AllReadyH.nil
    go_simp
    refine hK.out _ _ ⟨b2, b0, b1⟩ (fun hHeld => ?_)
    clear hK K
    try simp only [Act.put, List.setIfInBounds_toArray, List.set_cons_zero, List.set_cons_succ]
    refine wpAnyH_done (by kernel_rfl) ?_ _

    go_upto_region 2 with fail
    go_cut [59] from 39 to 58 (fun v w' => Rep base w' (upd σ1 c1 { s1 with es := s1.es ++ kk3 :: t.es }) ∧ MutC base n w w' ∧ NB B w' (upd σ1 c1 { s1 with es := s1.es ++ kk3 :: t.es }))
    case first =>
      refine wp_region_held_drew (S := fun w' => w'.cell? ⟨n, 0, none⟩ = some (.slice (some ⟨gn3, 0, none⟩) L3 capn3) ∧ w'.cell? ⟨gn3, k * 4, none⟩ = some (.string (p6 kk3)) ∧ w'.cell? ⟨gn3, k * 4 + 1, none⟩ = some (.slice none 0 0) ∧ w'.cell? ⟨gn3, k * 4 + 2, none⟩ = some (.int .u64 kk3) ∧ w'.cell? ⟨gn3, k * 4 + 3, none⟩ = some (.int .u64 0) ∧ w'.cell? ⟨d, 0, none⟩ = some (.slice (some ⟨gd3, 0, none⟩) T3 capd3)) (by kernel_rfl) ⟨e23, e33, e43, e53, e63, d13⟩ (fun hHeld => ?_)
      refine wpAnyH_take (i := 0) (v := ?_) rfl (by kernel_rfl) (by kernel_rfl) (by kernel_rfl) (fun _ _ _ h => h) (Or.inl ⟨by rfl, ?_⟩) hHeld ?_
      rotate_left
      · (intro w hSw; (try dsimp only at hSw); go_simp; try with_reducible rfl)
      try simp only [Act.put, List.setIfInBounds_toArray, List.set_cons_zero, List.set_cons_succ]
      refine wpAnyH_take (i := 1) (v := ?_) rfl (by kernel_rfl) (by kernel_rfl) (by kernel_rfl) (fun _ _ _ h => h) (Or.inl ⟨by rfl, ?_⟩) hHeld ?_
      rotate_left
      · (intro w hSw; (try dsimp only at hSw); go_simp; try with_reducible rfl)
      try simp only [Act.put, List.setIfInBounds_toArray, List.set_cons_zero, List.set_cons_succ]
      refine wpAnyH_take (i := 2) (v := ?_) rfl (by kernel_rfl) (by kernel_rfl) (by kernel_rfl) (fun _ _ _ h => h) (Or.inl ⟨by rfl, ?_⟩) hHeld ?_
      rotate_left
      · (intro w hSw; (try dsimp only at hSw); go_simp; try with_reducible rfl)
      try simp only [Act.put, List.setIfInBounds_toArray, List.set_cons_zero, List.set_cons_succ]
      refine wpAnyH_take (i := 3) (v := ?_) rfl (by kernel_rfl) (by kernel_rfl) (by kernel_rfl) (fun _ _ _ h => h) (Or.inl ⟨by rfl, ?_⟩) hHeld ?_
      rotate_left
      · (intro w hSw; (try dsimp only at hSw); go_simp; try with_reducible rfl)
      try simp only [Act.put, List.setIfInBounds_toArray, List.set_cons_zero, List.set_cons_succ]
      refine wpAnyH_take (i := 5) (v := ?_) rfl (by kernel_rfl) (by kernel_rfl) (by kernel_rfl) (fun _ _ _ h => h) (Or.inl ⟨by rfl, ?_⟩) hHeld ?_
      rotate_left
      · (intro w hSw; (try dsimp only at hSw); go_simp; try with_reducible rfl)
      try simp only [Act.put, List.setIfInBounds_toArray, List.set_cons_zero, List.set_cons_succ]
      refine wpAnyH_take (i := 6) (v := ?_) rfl (by kernel_rfl) (by kernel_rfl) (by kernel_rfl) (fun _ _ _ h => h) (Or.inl ⟨by rfl, ?_⟩) hHeld ?_
      rotate_left
      · (intro w hSw; (try dsimp only at hSw); go_simp; try with_reducible rfl)
      try simp only [Act.put, List.setIfInBounds_toArray, List.set_cons_zero, List.set_cons_succ]
      refine wpAnyH_take (i := 7) (v := ?_) rfl (by kernel_rfl) (by kernel_rfl) (by kernel_rfl) (fun _ _ _ h => h) (Or.inl ⟨by rfl, ?_⟩) hHeld ?_
      rotate_left
      · (intro w hSw; (try dsimp only at hSw); go_simp; try with_reducible rfl)
      try simp only [Act.put, List.setIfInBounds_toArray, List.set_cons_zero, List.set_cons_succ]
      refine wpAnyH_take (i := 8) (v := ?_) rfl (by kernel_rfl) (by kernel_rfl) (by kernel_rfl) (fun _ _ _ h => h) (Or.inl ⟨by rfl, ?_⟩) hHeld ?_
      rotate_left
      · (intro w hSw; (try dsimp only at hSw); go_simp; try with_reducible rfl)
      try simp only [Act.put, List.setIfInBounds_toArray, List.set_cons_zero, List.set_cons_succ]
      refine wpAnyH_take (i := 9) (v := ?_) rfl (by kernel_rfl) (by kernel_rfl) (by kernel_rfl) (fun _ _ _ h => h) (Or.inl ⟨by rfl, ?_⟩) hHeld ?_
      rotate_left
      · (intro w hSw; (try dsimp only at hSw); go_simp; try with_reducible rfl)
      try simp only [Act.put, List.setIfInBounds_toArray, List.set_cons_zero, List.set_cons_succ]
      refine wpAnyH_take (i := 10) (v := ?_) rfl (by kernel_rfl) (by kernel_rfl) (by kernel_rfl) (fun _ _ _ h => h) (Or.inl ⟨by rfl, ?_⟩) hHeld ?_
      rotate_left
      · (intro w hSw; (try dsimp only at hSw); go_simp; try with_reducible rfl)
      try simp only [Act.put, List.setIfInBounds_toArray, List.set_cons_zero, List.set_cons_succ]
      refine wpAnyH_take (i := 11) (v := ?_) rfl (by kernel_rfl) (by kernel_rfl) (by kernel_rfl) (fun _ _ _ h => h) (Or.inl ⟨by rfl, ?_⟩) hHeld ?_
      rotate_left
      · (intro w hSw; (try dsimp only at hSw); go_simp; try with_reducible rfl)
      try simp only [Act.put, List.setIfInBounds_toArray, List.set_cons_zero, List.set_cons_succ]
      refine wpAnyH_take (i := 14) (v := ?_) rfl (by kernel_rfl) (by kernel_rfl) (by kernel_rfl) (fun _ _ _ h => h) (Or.inl ⟨by rfl, ?_⟩) hHeld ?_
      rotate_left
      · (intro w hSw; (try dsimp only at hSw); go_simp; try with_reducible rfl)
      try simp only [Act.put, List.setIfInBounds_toArray, List.set_cons_zero, List.set_cons_succ]
      refine wpAnyH_take (i := 15) (v := ?_) rfl (by kernel_rfl) (by kernel_rfl) (by kernel_rfl) (fun _ _ _ h => h) (Or.inl ⟨by rfl, ?_⟩) hHeld ?_
      rotate_left
      · (intro w hSw; (try dsimp only at hSw); go_simp; try with_reducible rfl)
      try simp only [Act.put, List.setIfInBounds_toArray, List.set_cons_zero, List.set_cons_succ]
      refine wpAnyH_take (i := 16) (v := ?_) rfl (by kernel_rfl) (by kernel_rfl) (by kernel_rfl) (fun _ _ _ h => h) (Or.inl ⟨by rfl, ?_⟩) hHeld ?_
      rotate_left
      · (intro w hSw; (try dsimp only at hSw); go_simp; try with_reducible rfl)
      try simp only [Act.put, List.setIfInBounds_toArray, List.set_cons_zero, List.set_cons_succ]
      refine wpAnyH_take (i := 17) (v := ?_) rfl (by kernel_rfl) (by kernel_rfl) (by kernel_rfl) (fun _ _ _ h => h) (Or.inl ⟨by rfl, ?_⟩) hHeld ?_
      rotate_left
      · (intro w hSw; (try dsimp only at hSw); go_simp; try with_reducible rfl)
      try simp only [Act.put, List.setIfInBounds_toArray, List.set_cons_zero, List.set_cons_succ]
      refine wpAnyH_ready (rs := [4, 12]) (by kernel_rfl) (by simp) ?_
      refine AllReadyH.cons rfl (fun K hK => ?_) (AllReadyH.cons rfl (fun K hK => ?_) AllReadyH.nil)
      · go_simp
        refine hK.out _ _ ⟨e23, e33, e43, e53, e63, d13⟩ (fun hHeld => ?_)
        clear hK K
        try simp only [Act.put, List.setIfInBounds_toArray, List.set_cons_zero, List.set_cons_succ]
        refine wpAnyH_ready (rs := [12]) (by kernel_rfl) (by simp) ?_
        refine AllReadyH.cons rfl (fun K hK => ?_) AllReadyH.nil
        go_simp
        refine hK.out _ _ (let a := (hFH3.out.far _ (grown_trans (grown_drew (grown_refl W1 _)) (grown_alloc _ _))).2.2; ⟨a.1, a.2.1, a.2.2.1, a.2.2.2.1, a.2.2.2.2, (d23H.out _ (grown_trans (grown_drew (grown_refl W1 _)) (grown_alloc _ _))).1⟩) (fun hHeld => ?_)
        clear hK K
        try simp only [Act.put, List.setIfInBounds_toArray, List.set_cons_zero, List.set_cons_succ]
        refine wpAnyH_ready (rs := [13]) (by kernel_rfl) (by simp) ?_
        refine AllReadyH.cons rfl (fun K hK => ?_) AllReadyH.nil
        obtain ⟨i0, hi0', hz0, hz1, hz2⟩ := info_parts infoEn
        refine step_append_lies _ (by rfl) _ _ 61 (by rfl) base 75 i0 zEn 4 56 Try.underlying61 hi0' hz0 hz1 hz2 rfl (by omega) (.slice (some ⟨gs3, 0, none⟩) E3 caps3) E3 (encE s1.es) (by simp [Act.eval, Act.put]) hFH3.out.o1 ⟨W1.heap.size, 0, none⟩ 1 1 (enE kk3) (by simp [Act.eval, Act.put]) rfl (World.news_of_block hFH3.out.o2) (by rw [← encE_one]; exact encE_cell1 _) (by omega) (by unfold maxLen; omega) (by omega) (by simp; omega) (W1.heap.size + 1) (by simp) ?_
        intro g8 cap8 w8 hown8 hgr8 hat8 hlt8
        have hgW : W1.grownBy w8 (some gs3) := grown_trans (grown_drew (grown_drew (grown_alloc _ _))) hgr8
        obtain ⟨f8, q8, qq⟩ := hFH3.out.far _ hgW
        have qd := d23H.out _ hgW
        refine hK.out _ _ (let a := qq; ⟨a.1, a.2.1, a.2.2.1, a.2.2.2.1, a.2.2.2.2, qd.1⟩) (fun hHeld => ?_)
        clear hK K
        try simp only [Act.put, List.setIfInBounds_toArray, List.set_cons_zero, List.set_cons_succ]
        refine wpAnyH_ready (rs := [18]) (by kernel_rfl) (by simp) ?_
        refine AllReadyH.cons rfl (fun K hK => ?_) AllReadyH.nil
        obtain ⟨i0, hi0', hz0, hz1, hz2⟩ := info_parts infoEn
        refine step_append_lies _ (by rfl) _ _ 61 (by rfl) base 75 i0 zEn 4 56 Try.underlying61 hi0' hz0 hz1 hz2 rfl (by omega) (.slice (some ⟨g8, 0, none⟩) (E3 + 1) cap8) (E3 + 1) (encE s1.es ++ enE kk3) (by simp [Act.eval, Act.put]) hown8 ⟨gd3, 0, none⟩ T3 capd3 (encE t.es) (by simp [Act.eval, Act.put]) (by rw [encE_len, hT3H.out]) qd.2 (encE_cell1 _) hT0 (by unfold maxLen; omega) (by omega) (Nat.le_trans hb1 hgW.size) w8.heap.size rfl ?_
        intro g9 cap9 w9 hown9 hgr9 hat9 hlt9
        have hat8' : gs3 = g8 ∨ W1.heap.size ≤ g8 := by rcases hat8 with h | h; exact .inl (by simpa [Value.ownBlock] using h); exact .inr (by rw [h]; simp)
        have hgW9 : W1.grownBy w9 (some gs3) := grown_two hgW hgr9 hat8'
        have hat9' : some gs3 = some g9 ∨ W1.heap.size ≤ g9 := by
          rcases hat9 with h | h
          · have h' : g8 = g9 := by simpa [Value.ownBlock] using h
            rcases hat8' with h8 | h8
            · exact .inl (by rw [h8, h'])
            · exact .inr (by omega)
          · exact .inr (by rw [h]; exact hgW.size)
        obtain ⟨f9, q9, qq9⟩ := hFH3.out.far _ hgW9
        have qd9 := d23H.out _ hgW9
        refine hK.out _ _ (let a := qq9; ⟨a.1, a.2.1, a.2.2.1, a.2.2.2.1, a.2.2.2.2, qd9.1⟩) (fun hHeld => ?_)
        clear hK K
        try simp only [Act.put, List.setIfInBounds_toArray, List.set_cons_zero, List.set_cons_succ]
        refine wpAnyH_take (i := 19) (v := ?_) rfl (by kernel_rfl) (by kernel_rfl) (by kernel_rfl) (fun _ _ _ h => h) (Or.inl ⟨by rfl, ?_⟩) hHeld ?_
        rotate_left
        · (intro w hSw; (try dsimp only at hSw); go_simp; try with_reducible rfl)
        try simp only [Act.put, List.setIfInBounds_toArray, List.set_cons_zero, List.set_cons_succ]
        refine wpAnyH_take (i := 20) (v := ?_) rfl (by kernel_rfl) (by kernel_rfl) (by kernel_rfl) (fun _ _ _ h => h) (Or.inl ⟨by rfl, ?_⟩) hHeld ?_
        rotate_left
        · (intro w hSw; (try dsimp only at hSw); go_simp; try with_reducible rfl)
        try simp only [Act.put, List.setIfInBounds_toArray, List.set_cons_zero, List.set_cons_succ]
        refine wpAnyH_ready (rs := [21]) (by kernel_rfl) (by simp) ?_
        refine AllReadyH.cons rfl (fun K hK => ?_) AllReadyH.nil
        go_simp
        refine hK.out _ _ ⟨cell_off hFH3.out.xn qq9.1, cell_off hFH3.out.xg qq9.2.1, cell_off hFH3.out.xg qq9.2.2.1, cell_off hFH3.out.xg qq9.2.2.2.1, cell_off hFH3.out.xg qq9.2.2.2.2, cell_off hne1 qd9.1⟩ (fun hHeld => ?_)
        clear hK K
        try simp only [Act.put, List.setIfInBounds_toArray, List.set_cons_zero, List.set_cons_succ]
        refine wpAnyH_done (by kernel_rfl) ?_ _
        go_wp2_with fail
        go_meet
        go_light
        have hfin := hFH3.out.fin w9 g9 (E3 + 1 + T3) cap9 (s1.es ++ kk3 :: t.es) hgW9 (by rw [hE3H.out, hT3H.out]; simp; omega) (by rw [encE_append, show encE (kk3 :: t.es) = enE kk3 ++ encE t.es from rfl, ← List.append_assoc]; exact hown9) hat9'
        exact ⟨hfin.1, hM1.trans ⟨hfin.2, KC.of_eq (hFH3.out.kc n r1 hn1 w9 _ hgW9)⟩, nb_E hpH3.out hN1 hcs1 hFH3.out.d0 hgW9 (by rcases hat9' with h | h; exact .inl (by simpa using h); exact .inr h)⟩
      · go_simp
        refine hK.out _ _ (let a := (hFH3.out.far _ (grown_trans (grown_drew (grown_refl W1 _)) (grown_alloc _ _))).2.2; ⟨a.1, a.2.1, a.2.2.1, a.2.2.2.1, a.2.2.2.2, (d23H.out _ (grown_trans (grown_drew (grown_refl W1 _)) (grown_alloc _ _))).1⟩) (fun hHeld => ?_)
        clear hK K
        try simp only [Act.put, List.setIfInBounds_toArray, List.set_cons_zero, List.set_cons_succ]
        refine wpAnyH_ready (rs := [4]) (by kernel_rfl) (by simp) ?_
        refine AllReadyH.cons rfl (fun K hK => ?_) AllReadyH.nil
        go_simp
        refine hK.out _ _ (let a := (hFH3.out.far _ (grown_trans (grown_drew (grown_refl W1 _)) (grown_alloc _ _))).2.2; ⟨a.1, a.2.1, a.2.2.1, a.2.2.2.1, a.2.2.2.2, (d23H.out _ (grown_trans (grown_drew (grown_refl W1 _)) (grown_alloc _ _))).1⟩) (fun hHeld => ?_)
        clear hK K
        try simp only [Act.put, List.setIfInBounds_toArray, List.set_cons_zero, List.set_cons_succ]
        refine wpAnyH_ready (rs := [13]) (by kernel_rfl) (by simp) ?_
        refine AllReadyH.cons rfl (fun K hK => ?_) AllReadyH.nil
        obtain ⟨i0, hi0', hz0, hz1, hz2⟩ := info_parts infoEn
        refine step_append_lies _ (by rfl) _ _ 61 (by rfl) base 75 i0 zEn 4 56 Try.underlying61 hi0' hz0 hz1 hz2 rfl (by omega) (.slice (some ⟨gs3, 0, none⟩) E3 caps3) E3 (encE s1.es) (by simp [Act.eval, Act.put]) hFH3.out.o1 ⟨W1.heap.size, 0, none⟩ 1 1 (enE kk3) (by simp [Act.eval, Act.put]) rfl (World.news_of_block hFH3.out.o2) (by rw [← encE_one]; exact encE_cell1 _) (by omega) (by unfold maxLen; omega) (by omega) (by simp; omega) (W1.heap.size + 1) (by simp) ?_
        intro g8 cap8 w8 hown8 hgr8 hat8 hlt8
        have hgW : W1.grownBy w8 (some gs3) := grown_trans (grown_drew (grown_drew (grown_alloc _ _))) hgr8
        obtain ⟨f8, q8, qq⟩ := hFH3.out.far _ hgW
        have qd := d23H.out _ hgW
        refine hK.out _ _ (let a := qq; ⟨a.1, a.2.1, a.2.2.1, a.2.2.2.1, a.2.2.2.2, qd.1⟩) (fun hHeld => ?_)
        clear hK K
        try simp only [Act.put, List.setIfInBounds_toArray, List.set_cons_zero, List.set_cons_succ]
        refine wpAnyH_ready (rs := [18]) (by kernel_rfl) (by simp) ?_
        refine AllReadyH.cons rfl (fun K hK => ?_) AllReadyH.nil
        obtain ⟨i0, hi0', hz0, hz1, hz2⟩ := info_parts infoEn
        refine step_append_lies _ (by rfl) _ _ 61 (by rfl) base 75 i0 zEn 4 56 Try.underlying61 hi0' hz0 hz1 hz2 rfl (by omega) (.slice (some ⟨g8, 0, none⟩) (E3 + 1) cap8) (E3 + 1) (encE s1.es ++ enE kk3) (by simp [Act.eval, Act.put]) hown8 ⟨gd3, 0, none⟩ T3 capd3 (encE t.es) (by simp [Act.eval, Act.put]) (by rw [encE_len, hT3H.out]) qd.2 (encE_cell1 _) hT0 (by unfold maxLen; omega) (by omega) (Nat.le_trans hb1 hgW.size) w8.heap.size rfl ?_
        intro g9 cap9 w9 hown9 hgr9 hat9 hlt9
        have hat8' : gs3 = g8 ∨ W1.heap.size ≤ g8 := by rcases hat8 with h | h; exact .inl (by simpa [Value.ownBlock] using h); exact .inr (by rw [h]; simp)
        have hgW9 : W1.grownBy w9 (some gs3) := grown_two hgW hgr9 hat8'
        have hat9' : some gs3 = some g9 ∨ W1.heap.size ≤ g9 := by
          rcases hat9 with h | h
          · have h' : g8 = g9 := by simpa [Value.ownBlock] using h
            rcases hat8' with h8 | h8
            · exact .inl (by rw [h8, h'])
            · exact .inr (by omega)
          · exact .inr (by rw [h]; exact hgW.size)
        obtain ⟨f9, q9, qq9⟩ := hFH3.out.far _ hgW9
        have qd9 := d23H.out _ hgW9
        refine hK.out _ _ (let a := qq9; ⟨a.1, a.2.1, a.2.2.1, a.2.2.2.1, a.2.2.2.2, qd9.1⟩) (fun hHeld => ?_)
        clear hK K
        try simp only [Act.put, List.setIfInBounds_toArray, List.set_cons_zero, List.set_cons_succ]
        refine wpAnyH_take (i := 19) (v := ?_) rfl (by kernel_rfl) (by kernel_rfl) (by kernel_rfl) (fun _ _ _ h => h) (Or.inl ⟨by rfl, ?_⟩) hHeld ?_
        rotate_left
        · (intro w hSw; (try dsimp only at hSw); go_simp; try with_reducible rfl)
        try simp only [Act.put, List.setIfInBounds_toArray, List.set_cons_zero, List.set_cons_succ]
        refine wpAnyH_take (i := 20) (v := ?_) rfl (by kernel_rfl) (by kernel_rfl) (by kernel_rfl) (fun _ _ _ h => h) (Or.inl ⟨by rfl, ?_⟩) hHeld ?_
        rotate_left
        · (intro w hSw; (try dsimp only at hSw); go_simp; try with_reducible rfl)
        try simp only [Act.put, List.setIfInBounds_toArray, List.set_cons_zero, List.set_cons_succ]
        refine wpAnyH_ready (rs := [21]) (by kernel_rfl) (by simp) ?_
        refine AllReadyH.cons rfl (fun K hK => ?_) AllReadyH.nil
        go_simp
        refine hK.out _ _ ⟨cell_off hFH3.out.xn qq9.1, cell_off hFH3.out.xg qq9.2.1, cell_off hFH3.out.xg qq9.2.2.1, cell_off hFH3.out.xg qq9.2.2.2.1, cell_off hFH3.out.xg qq9.2.2.2.2, cell_off hne1 qd9.1⟩ (fun hHeld => ?_)
        clear hK K
        try simp only [Act.put, List.setIfInBounds_toArray, List.set_cons_zero, List.set_cons_succ]
        refine wpAnyH_done (by kernel_rfl) ?_ _
        go_wp2_with fail
        go_meet
        go_light
        have hfin := hFH3.out.fin w9 g9 (E3 + 1 + T3) cap9 (s1.es ++ kk3 :: t.es) hgW9 (by rw [hE3H.out, hT3H.out]; simp; omega) (by rw [encE_append, show encE (kk3 :: t.es) = enE kk3 ++ encE t.es from rfl, ← List.append_assoc]; exact hown9) hat9'
        exact ⟨hfin.1, hM1.trans ⟨hfin.2, KC.of_eq (hFH3.out.kc n r1 hn1 w9 _ hgW9)⟩, nb_E hpH3.out hN1 hcs1 hFH3.out.d0 hgW9 (by rcases hat9' with h | h; exact .inl (by simpa using h); exact .inr h)⟩
    case rest =>
      rename World => W3
      obtain ⟨hR3, hM3, hN3⟩ := hcut
      clear hFH3 hpH3 e13 e23 e33 e43 e53 e63 e73 e93 d13 b0 b1 b2 b4 b5 hM1 hb1
      obtain ⟨s3, hs3⟩ : ∃ s3 : Nd, s3 = { s1 with es := s1.es ++ kk3 :: t.es } := ⟨_, rfl⟩
      rw [← hs3] at hR3 hN3
      obtain ⟨σ3, hσ3⟩ : ∃ σ3, σ3 = upd σ1 c1 s3 := ⟨_, rfl⟩
      rw [← hσ3] at hR3 hN3
      have hn3 : σ3 n = some r1 := by rw [hσ3, upd_other _ _ _ (Ne.symm hcn1)]; exact hn1
      have hd3 : σ3 d = some t := by rw [hσ3, upd_other _ _ _ hne1]; exact ht1
      have hcc3 : σ3 c1 = some s3 := by rw [hσ3, upd_same]
      have hs3c : s3.cs = s1.cs := by rw [hs3]
      have hσ3H := hide hσ3; have hs3H := hide hs3; have hs3cH := hide hs3c
      have hb3 : base ≤ W3.heap.size := Nat.le_trans hbase hM3.size
      obtain ⟨ph3, hp3⟩ := hR3
      clear hσ3 hs3 hs3c
      have hcut4 : ∃ q4 c4 : Value, W3.cell? ⟨c1, 1, none⟩ = some q4 ∧ W3.cell? ⟨d, 1, none⟩ = some c4 := ⟨_, _, hp3.c1 hcc3, hp3.c1 hd3⟩
      clear hcut4
      go_upto_region 3 with fail
      go_cut [71] from 60 to 70 (fun v w' => Rep base w' (upd σ3 c1 { s3 with cs := s3.cs ++ t.cs }) ∧ MutC base n w w' ∧ NB B w' (upd σ3 c1 { s3 with cs := s3.cs ++ t.cs }))
      case first =>
        by_cases h0 : h = 0
        · skip
          have ht0 : t.cs = [] := List.eq_nil_of_length_eq_zero (by have := htcH.out; rw [if_pos h0] at this; exact this)
          have hs0 : s3.cs = [] := by
            rw [hs3cH.out, hscH1.out]
            exact List.eq_nil_of_length_eq_zero (by have := hscH.out; rw [if_pos h0] at this; exact this)
          have e1 := hp3.c1 hcc3
          rw [(hp3.nd c1 s3 hcc3).leaf hs0] at e1
          have e2 := hp3.c1 hd3
          rw [(hp3.nd d t hd3).leaf ht0] at e2
          have e3 := hp3.fz hcc3 1
          have hnil := nil_C hp3 hcc3 hs0 hb3 hn3 (Ne.symm hcn1)
          have hr4 : (Builtin.append_ #[62, 62] 62 #[.slice none 0 0, .slice none 0 0]).run Try.prog W3.drew = .ok (.slice none 0 0) W3.drew := by
            obtain ⟨i0, hi0', hz0, hz1, hz2⟩ := info_parts infoCh
            exact run_append_owned_none (w := W3.drew) base 62 62 29 i0 1 Try.underlying62 hi0' (.slice none 0 0) 0 [] (World.ownsRow_nil _ _ _ _)
          have hpH := hide hp3; have hnH := hide hnil; have ht0H := hide ht0; have hs0H := hide hs0
          clear hp3 hnil ht0 hs0
          refine wp_region_held_drew (S := fun w' => w'.cell? ⟨d, 1, none⟩ = some (.slice none 0 0)) (by kernel_rfl) e2 (fun hHeld => ?_)
          refine wpAnyH_take (i := 0) (v := ?_) rfl (by kernel_rfl) (by kernel_rfl) (by kernel_rfl) (fun _ _ _ h => h) (Or.inl ⟨by rfl, ?_⟩) hHeld ?_
          rotate_left
          · (intro w hSw; (try dsimp only at hSw); go_simp; try with_reducible rfl)
          try simp only [Act.put, List.setIfInBounds_toArray, List.set_cons_zero, List.set_cons_succ]
          refine wpAnyH_take (i := 1) (v := ?_) rfl (by kernel_rfl) (by kernel_rfl) (by kernel_rfl) (fun _ _ _ h => h) (Or.inl ⟨by rfl, ?_⟩) hHeld ?_
          rotate_left
          · (intro w hSw; (try dsimp only at hSw); go_simp; try with_reducible rfl)
          try simp only [Act.put, List.setIfInBounds_toArray, List.set_cons_zero, List.set_cons_succ]
          refine wpAnyH_take (i := 2) (v := ?_) rfl (by kernel_rfl) (by kernel_rfl) (by kernel_rfl) (fun _ _ _ h => h) (Or.inl ⟨by rfl, ?_⟩) hHeld ?_
          rotate_left
          · (intro w hSw; (try dsimp only at hSw); go_simp; try with_reducible rfl)
          try simp only [Act.put, List.setIfInBounds_toArray, List.set_cons_zero, List.set_cons_succ]
          refine wpAnyH_take (i := 3) (v := ?_) rfl (by kernel_rfl) (by kernel_rfl) (by kernel_rfl) (fun _ _ _ h => h) (Or.inl ⟨by rfl, ?_⟩) hHeld ?_
          rotate_left
          · (intro w hSw; (try dsimp only at hSw); go_simp; try with_reducible rfl)
          try simp only [Act.put, List.setIfInBounds_toArray, List.set_cons_zero, List.set_cons_succ]
          refine wpAnyH_take (i := 5) (v := ?_) rfl (by kernel_rfl) (by kernel_rfl) (by kernel_rfl) (fun _ _ _ h => h) (Or.inl ⟨by rfl, ?_⟩) hHeld ?_
          rotate_left
          · (intro w hSw; (try dsimp only at hSw); go_simp; try with_reducible rfl)
          try simp only [Act.put, List.setIfInBounds_toArray, List.set_cons_zero, List.set_cons_succ]
          refine wpAnyH_take (i := 6) (v := ?_) rfl (by kernel_rfl) (by kernel_rfl) (by kernel_rfl) (fun _ _ _ h => h) (Or.inl ⟨by rfl, ?_⟩) hHeld ?_
          rotate_left
          · (intro w hSw; (try dsimp only at hSw); go_simp; try with_reducible rfl)
          try simp only [Act.put, List.setIfInBounds_toArray, List.set_cons_zero, List.set_cons_succ]
          refine wpAnyH_take (i := 7) (v := ?_) rfl (by kernel_rfl) (by kernel_rfl) (by kernel_rfl) (fun _ _ _ h => h) (Or.inl ⟨by rfl, ?_⟩) hHeld ?_
          rotate_left
          · (intro w hSw; (try dsimp only at hSw); go_simp; try with_reducible rfl)
          try simp only [Act.put, List.setIfInBounds_toArray, List.set_cons_zero, List.set_cons_succ]
          refine wpAnyH_take (i := 8) (v := ?_) rfl (by kernel_rfl) (by kernel_rfl) (by kernel_rfl) (fun _ _ _ h => h) (Or.inl ⟨by rfl, ?_⟩) hHeld ?_
          rotate_left
          · (intro w hSw; (try dsimp only at hSw); go_simp; try with_reducible rfl)
          try simp only [Act.put, List.setIfInBounds_toArray, List.set_cons_zero, List.set_cons_succ]
          refine wpAnyH_ready (rs := [4]) (by kernel_rfl) (by simp) ?_
          refine AllReadyH.cons rfl (fun K hK => ?_) AllReadyH.nil
          go_simp
          refine hK.out _ _ e2 (fun hHeld => ?_)
          clear hK K
          try simp only [Act.put, List.setIfInBounds_toArray, List.set_cons_zero, List.set_cons_succ]
          refine wpAnyH_ready (rs := [9]) (by kernel_rfl) (by simp) ?_
          refine AllReadyH.cons rfl (fun K hK => ?_) AllReadyH.nil
          refine step_append_run (by rfl) _ _ 62 62 (by rfl) (.slice none 0 0) (.slice none 0 0) (by simp [Act.eval, Act.put]) (by simp [Act.eval, Act.put]) hr4 ?_
          refine hK.out _ _ e2 (fun hHeld => ?_)
          clear hK K
          try simp only [Act.put, List.setIfInBounds_toArray, List.set_cons_zero, List.set_cons_succ]
          refine wpAnyH_take (i := 10) (v := ?_) rfl (by kernel_rfl) (by kernel_rfl) (by kernel_rfl) (fun _ _ _ h => h) (Or.inl ⟨by rfl, ?_⟩) hHeld ?_
          rotate_left
          · (intro w hSw; (try dsimp only at hSw); go_simp; try with_reducible rfl)
          try simp only [Act.put, List.setIfInBounds_toArray, List.set_cons_zero, List.set_cons_succ]
          refine wpAnyH_take (i := 11) (v := ?_) rfl (by kernel_rfl) (by kernel_rfl) (by kernel_rfl) (fun _ _ _ h => h) (Or.inl ⟨by rfl, ?_⟩) hHeld ?_
          rotate_left
          · (intro w hSw; (try dsimp only at hSw); go_simp; try with_reducible rfl)
          try simp only [Act.put, List.setIfInBounds_toArray, List.set_cons_zero, List.set_cons_succ]
          refine wpAnyH_ready (rs := [12]) (by kernel_rfl) (by simp) ?_
          refine AllReadyH.cons rfl (fun K hK => ?_) AllReadyH.nil
          go_simp
          refine hK.out _ _ (cell_off hne1 e2) (fun hHeld => ?_)
          clear hK K
          try simp only [Act.put, List.setIfInBounds_toArray, List.set_cons_zero, List.set_cons_succ]
          refine wpAnyH_done (by kernel_rfl) ?_ _
          go_wp2_with fail
          go_meet
          go_light
          rw [ht0H.out, hs0H.out]
          exact ⟨hnH.out.1, hM3.trans hnH.out.2, nb_C hpH.out hN3 hcc3 (grown_drew (grown_refl W3 none)) (fun g h => by cases h) _⟩
        · skip
          have htc16 : t.cs.length = 16 := by have := htcH.out; rw [if_neg h0, htlH.out] at this; exact this
          have hsc16 : s3.cs.length = 16 := by have := hscH.out; rw [if_neg h0, hslH.out] at this; rw [hs3cH.out, hscH1.out]; exact this
          obtain ⟨E4, hE4⟩ : ∃ E, E = s3.cs.length := ⟨_, rfl⟩
          obtain ⟨T4, hT4⟩ : ∃ T, T = t.cs.length := ⟨_, rfl⟩
          obtain ⟨gs4, caps4, hF4⟩ := ownC hp3 hcc3 hE4 (by omega) hb3
          obtain ⟨gd4, capd4, d14, d24⟩ := mrgC hp3 hcc3 hd3 hne1 (by omega) hF4.d0
          rw [← hT4] at d14 d24
          have e1 := hF4.d0
          have hE100' : E4 < 100 := by omega
          have hT100' : T4 < 100 := by omega
          have hT0' : 0 < T4 := by omega
          have hFH4 := hide hF4; have hpH := hide hp3; have d24H := hide d24; have hE4H := hide hE4; have hT4H := hide hT4
          clear hF4 hp3 d24 hE4 hT4 htc16 hsc16
          refine wp_region_held_drew (S := fun w' => w'.cell? ⟨d, 1, none⟩ = some (.slice (some ⟨gd4, 0, none⟩) T4 capd4)) (by kernel_rfl) d14 (fun hHeld => ?_)
          refine wpAnyH_take (i := 0) (v := ?_) rfl (by kernel_rfl) (by kernel_rfl) (by kernel_rfl) (fun _ _ _ h => h) (Or.inl ⟨by rfl, ?_⟩) hHeld ?_
          rotate_left
          · (intro w hSw; (try dsimp only at hSw); go_simp; try with_reducible rfl)
          try simp only [Act.put, List.setIfInBounds_toArray, List.set_cons_zero, List.set_cons_succ]
          refine wpAnyH_take (i := 1) (v := ?_) rfl (by kernel_rfl) (by kernel_rfl) (by kernel_rfl) (fun _ _ _ h => h) (Or.inl ⟨by rfl, ?_⟩) hHeld ?_
          rotate_left
          · (intro w hSw; (try dsimp only at hSw); go_simp; try with_reducible rfl)
          try simp only [Act.put, List.setIfInBounds_toArray, List.set_cons_zero, List.set_cons_succ]
          refine wpAnyH_take (i := 2) (v := ?_) rfl (by kernel_rfl) (by kernel_rfl) (by kernel_rfl) (fun _ _ _ h => h) (Or.inl ⟨by rfl, ?_⟩) hHeld ?_
          rotate_left
          · (intro w hSw; (try dsimp only at hSw); go_simp; try with_reducible rfl)
          try simp only [Act.put, List.setIfInBounds_toArray, List.set_cons_zero, List.set_cons_succ]
          refine wpAnyH_take (i := 3) (v := ?_) rfl (by kernel_rfl) (by kernel_rfl) (by kernel_rfl) (fun _ _ _ h => h) (Or.inl ⟨by rfl, ?_⟩) hHeld ?_
          rotate_left
          · (intro w hSw; (try dsimp only at hSw); go_simp; try with_reducible rfl)
          try simp only [Act.put, List.setIfInBounds_toArray, List.set_cons_zero, List.set_cons_succ]
          refine wpAnyH_take (i := 5) (v := ?_) rfl (by kernel_rfl) (by kernel_rfl) (by kernel_rfl) (fun _ _ _ h => h) (Or.inl ⟨by rfl, ?_⟩) hHeld ?_
          rotate_left
          · (intro w hSw; (try dsimp only at hSw); go_simp; try with_reducible rfl)
          try simp only [Act.put, List.setIfInBounds_toArray, List.set_cons_zero, List.set_cons_succ]
          refine wpAnyH_take (i := 6) (v := ?_) rfl (by kernel_rfl) (by kernel_rfl) (by kernel_rfl) (fun _ _ _ h => h) (Or.inl ⟨by rfl, ?_⟩) hHeld ?_
          rotate_left
          · (intro w hSw; (try dsimp only at hSw); go_simp; try with_reducible rfl)
          try simp only [Act.put, List.setIfInBounds_toArray, List.set_cons_zero, List.set_cons_succ]
          refine wpAnyH_take (i := 7) (v := ?_) rfl (by kernel_rfl) (by kernel_rfl) (by kernel_rfl) (fun _ _ _ h => h) (Or.inl ⟨by rfl, ?_⟩) hHeld ?_
          rotate_left
          · (intro w hSw; (try dsimp only at hSw); go_simp; try with_reducible rfl)
          try simp only [Act.put, List.setIfInBounds_toArray, List.set_cons_zero, List.set_cons_succ]
          refine wpAnyH_take (i := 8) (v := ?_) rfl (by kernel_rfl) (by kernel_rfl) (by kernel_rfl) (fun _ _ _ h => h) (Or.inl ⟨by rfl, ?_⟩) hHeld ?_
          rotate_left
          · (intro w hSw; (try dsimp only at hSw); go_simp; try with_reducible rfl)
          try simp only [Act.put, List.setIfInBounds_toArray, List.set_cons_zero, List.set_cons_succ]
          refine wpAnyH_ready (rs := [4]) (by kernel_rfl) (by simp) ?_
          refine AllReadyH.cons rfl (fun K hK => ?_) AllReadyH.nil
          go_simp
          refine hK.out _ _ d14 (fun hHeld => ?_)
          clear hK K
          try simp only [Act.put, List.setIfInBounds_toArray, List.set_cons_zero, List.set_cons_succ]
          refine wpAnyH_ready (rs := [9]) (by kernel_rfl) (by simp) ?_
          refine AllReadyH.cons rfl (fun K hK => ?_) AllReadyH.nil
          obtain ⟨i0, hi0', hz0, hz1, hz2⟩ := info_parts infoCh
          refine step_append_lies _ (by rfl) _ _ 62 (by rfl) base 29 i0 (.pointer none) 1 8 Try.underlying62 hi0' hz0 hz1 hz2 rfl (by omega) (.slice (some ⟨gs4, 0, none⟩) E4 caps4) E4 (encC s3.cs) (by simp [Act.eval, Act.put]) hFH4.out.own ⟨gd4, 0, none⟩ T4 capd4 (encC t.cs) (by simp [Act.eval, Act.put]) (by rw [encC_len, hT4H.out, Nat.mul_one]) (d24H.out _ (grown_drew (grown_refl W3 _))).2 (encC_cell1 _) hT0' (by unfold maxLen; omega) (by omega) hb3 W3.heap.size rfl ?_
          intro g8 cap8 w8 hown8 hgr8 hat8 hlt8
          have hgW : W3.grownBy w8 (some gs4) := grown_trans (grown_drew (grown_refl W3 _)) hgr8
          obtain ⟨f8, q8⟩ := hFH4.out.far _ hgW
          have qd := d24H.out _ hgW
          refine hK.out _ _ qd.1 (fun hHeld => ?_)
          clear hK K
          try simp only [Act.put, List.setIfInBounds_toArray, List.set_cons_zero, List.set_cons_succ]
          refine wpAnyH_take (i := 10) (v := ?_) rfl (by kernel_rfl) (by kernel_rfl) (by kernel_rfl) (fun _ _ _ h => h) (Or.inl ⟨by rfl, ?_⟩) hHeld ?_
          rotate_left
          · (intro w hSw; (try dsimp only at hSw); go_simp; try with_reducible rfl)
          try simp only [Act.put, List.setIfInBounds_toArray, List.set_cons_zero, List.set_cons_succ]
          refine wpAnyH_take (i := 11) (v := ?_) rfl (by kernel_rfl) (by kernel_rfl) (by kernel_rfl) (fun _ _ _ h => h) (Or.inl ⟨by rfl, ?_⟩) hHeld ?_
          rotate_left
          · (intro w hSw; (try dsimp only at hSw); go_simp; try with_reducible rfl)
          try simp only [Act.put, List.setIfInBounds_toArray, List.set_cons_zero, List.set_cons_succ]
          refine wpAnyH_ready (rs := [12]) (by kernel_rfl) (by simp) ?_
          refine AllReadyH.cons rfl (fun K hK => ?_) AllReadyH.nil
          go_simp
          refine hK.out _ _ (cell_off hne1 qd.1) (fun hHeld => ?_)
          clear hK K
          try simp only [Act.put, List.setIfInBounds_toArray, List.set_cons_zero, List.set_cons_succ]
          refine wpAnyH_done (by kernel_rfl) ?_ _
          go_wp2_with fail
          go_meet
          go_light
          have hfin := hFH4.out.fin w8 g8 (E4 + T4) cap8 (s3.cs ++ t.cs) hgW (by omega) (by rw [hE4H.out, hT4H.out]; simp) (by rw [encC_append]; exact hown8) (by rcases hat8 with h | h; exact .inl h; exact .inr (by rw [h]; exact Nat.le_refl _))
          exact ⟨hfin.1, hM3.trans ⟨hfin.2, KC.of_eq (hFH4.out.kc n r1 hn3 (Ne.symm hcn1) w8 _ hgW)⟩, nb_C hpH.out hN3 hcc3 hgW (row_C hpH.out hcc3 hFH4.out.d0) _⟩
      case rest =>
        rename World => W4
        obtain ⟨hR4, hM4, hN4⟩ := hcut
        clear hp3 hM3 hb3
        obtain ⟨s4, hs4⟩ : ∃ s4 : Nd, s4 = { s3 with cs := s3.cs ++ t.cs } := ⟨_, rfl⟩
        rw [← hs4] at hR4 hN4
        obtain ⟨σ4, hσ4⟩ : ∃ σ4, σ4 = upd σ3 c1 s4 := ⟨_, rfl⟩
        rw [← hσ4] at hR4 hN4
        have hn4 : σ4 n = some r1 := by rw [hσ4, upd_other _ _ _ (Ne.symm hcn1)]; exact hn3
        have hcc4 : σ4 c1 = some s4 := by rw [hσ4, upd_same]
        have hσ4H := hide hσ4; have hs4H := hide hs4
        have hb4 : base ≤ W4.heap.size := Nat.le_trans hbase hM4.size
        obtain ⟨ph4, hp4⟩ := hR4
        clear hσ4 hs4
        obtain ⟨g5, cap5, hF5⟩ := delEF hp4 hn4 (j := k) (e1 := j) hjH.out hkj hb4
        have e15 := hF5.d0
        have hFH5 := hide hF5; have hpH5 := hide hp4
        clear hF5 hp4
        go_upto_region 4 with fail
        go_cut [82] from 72 to 81 (fun v w' => Rep base w' (upd σ4 n { r1 with es := r1.es.take k ++ r1.es.drop (k + 1) }) ∧ MutC base n w w' ∧ NB B w' (upd σ4 n { r1 with es := r1.es.take k ++ r1.es.drop (k + 1) }))
        case first =>
          go_wp2_with (first | (go_at_call 46; refine (delE g5 (j + 1) cap5 k base _ _ (encE r1.es) _ hFH5.out.own (by simp) (by have := hipH.out; omega) (by omega) (encE_cell1 _)).mono ?_; rintro e w8 ⟨rfl, hown8, hgr8⟩; have f8 := (hFH5.out.far _ hgr8).1; have q8 := (hFH5.out.far _ hgr8).2))
          go_meet
          go_light
          have hfin := hFH5.out.fin w8 hgr8 hown8
          exact ⟨hfin.1, hM4.trans ⟨hfin.2, KC.of_eq (hFH5.out.kc n r1 hn4 w8 _ hgr8)⟩, nb_E hpH5.out hN4 hn4 hFH5.out.d0 hgr8 (.inl rfl)⟩
        case rest =>
          rename World => W5
          obtain ⟨hR5, hM5, hN5⟩ := hcut
          clear hFH5 hpH5 e15 hM4 hb4
          obtain ⟨r5, hr5⟩ : ∃ r5 : Nd, r5 = { r1 with es := r1.es.take k ++ r1.es.drop (k + 1) } := ⟨_, rfl⟩
          rw [← hr5] at hR5 hN5
          obtain ⟨σ5, hσ5⟩ : ∃ σ5, σ5 = upd σ4 n r5 := ⟨_, rfl⟩
          rw [← hσ5] at hR5 hN5
          have hn5 : σ5 n = some r5 := by rw [hσ5, upd_same]
          have hcc5 : σ5 c1 = some s4 := by rw [hσ5, upd_other _ _ _ hcn1]; exact hcc4
          have hr5c : r5.cs.length = j + 1 + 1 := by rw [hr5]; exact hjcH.out
          have hσ5H := hide hσ5; have hr5H := hide hr5
          have hb5 : base ≤ W5.heap.size := Nat.le_trans hbase hM5.size
          obtain ⟨ph5, hp5⟩ := hR5
          obtain ⟨g7, cap7, hF7⟩ := delCF hp5 hn5 (j := p) (e1 := j + 1) hr5c (by have := hipH.out; omega) (by omega) hb5
          have e17 := hF7.d0
          have hFH7 := hide hF7; have hp5H := hide hp5
          clear hF7 hp5 hσ5 hr5 hr5c
          go_wp2_with (first | (go_at_call 47; refine (delC g7 (j + 1 + 1) cap7 p base _ _ (encC r5.cs) _ hFH7.out.own (by simp) (by simp) (by have := hipH.out; omega) (encC_cell1 _)).mono ?_; rintro e w8 ⟨rfl, hown8, hgr8⟩; have f8 := (hFH7.out.far _ hgr8).1; have q8 := (hFH7.out.far _ hgr8).2))
          go_end0
          go_light
          have hfin := hFH7.out.fin w8 hgr8 hown8
          refine ⟨rfl, fun i hi => ?_⟩
          refine merge_post hfin.1 (hM5.trans ⟨hfin.2, hFH7.out.kcx w8 hgr8⟩) (nb_C hp5H.out hN5 hn5 hgr8 (row_C hp5H.out hn5 hFH7.out.d0) _) hkpH1.out hn1 hkH1.out hreH1.out hroH1.out ht1 hcs1 (by rw [← hipH.out]; exact hl1H.out) hg1H.out hi hkE1 htlH.out hs15H.out hsoH1.out ?_ ?_ ?_
          · rw [upd_same, hr5H.out, hipH.out]
          · rw [upd_other _ _ _ hcn1, hcc5, hs4H.out, hs3H.out, hkk3H.out]
          · intro x u h1 h2 hx
            rw [upd_other _ _ _ h1, hσ5H.out, upd_other _ _ _ h1, hσ4H.out, upd_other _ _ _ h2, hσ3H.out, upd_other _ _ _ h2]
            exact hx

end Go.Proofs.Qxb6001038a
