import Derived.Test.Qxb6001038aG4c
import Derived.Deep.CutRange
namespace Go.Proofs.Qxb6001038a
open Go.RowKit
set_option linter.unusedVariables false
set_option linter.unusedSimpArgs false
attribute [local go_sem ↓] Go.wp_at_zero Go.wp_at_succ

set_option maxHeartbeats 8000000 in
set_option maxRecDepth 100000 in
/-- grow where the right neighbour can spare one. -/
theorem grow_right0 (B : Option Nat) (base n h lo hi c l : Nat) (ii : Int) (i p : Nat) (r s t : Nd) (σ : Nat → Option Nd) (w : World) (hii : ii = i) (hip : p = i + 1) (hR : Rep base w σ) (hN0 : NB B w σ) (hr : σ n = some r) (hk : Kids (Sub σ h) r.cs r.es lo hi) (him : i < r.es.length) (hre : r.es.length ≤ 31) (hiz : i = 0) 
    (hc : r.cs.getD i 0 = c) (hs : σ c = some s) (hcn : c ≠ n) (hl : r.cs.getD p 0 = l) (ht : σ l = some t) (hln : l ≠ n) (hcl : l ≠ c) (hsl : s.es.length = 15) (htl : 16 ≤ t.es.length) (htl2 : t.es.length ≤ 31)
    (hsc : s.cs.length = (if h = 0 then 0 else s.es.length + 1)) (htc : t.cs.length = (if h = 0 then 0 else t.es.length + 1)) (hms : ∀ y ∈ s.es, lo ≤ y ∧ y < hi) (hmt : ∀ y ∈ t.es, lo ≤ y ∧ y < hi) (hbase : base ≤ w.heap.size) :
    Calls Try.prog 36 #[.pointer (some ⟨n, 0, none⟩), .int .i64 ii] w (GrowPost B base w σ n r h lo hi i) := by
  subst hii
  obtain ⟨ph, hp⟩ := hR
  have hM0 := MutC.refl base n w
  have hlen := kids_len hk
  have hsc1 : s.cs.length < 100 := by rw [hsc]; split <;> omega
  have htc1 : t.cs.length < 100 := by rw [htc]; split <;> omega
  have hwm : IntKind.i64.wrap ((i : Int) + 1) = p := by rw [hip]; exact wrap_nat (i + 1) (by omega)
  have hwn : IntKind.i64.wrap (p : Int) = p := wrap_nat p (by omega)
  have hgoal := hide hk; have hscH := hide hsc; have htcH := hide htc; have hmsH := hide hms; have hmtH := hide hmt
  have hipH := hide hip; have hlenH := hide hlen; have hiL : i < r.cs.length := by omega
  have hrc1 : r.cs.length < 100 := by omega
  have hizH := hide hiz
  clear hiz
  clear hk hsc htc hms hmt hip hlen
  go_enter Try.func36, Try.ntmps36
  obtain ⟨L1, hL1⟩ : ∃ L, L = r.cs.length := ⟨_, rfl⟩
  obtain ⟨gc1, cap1, hF1⟩ := cowF hp hr hiL hc hL1
  have a11 := hF1.c1; have a21 := hF1.c2; have a31 := hF1.k0; have a41 : (i : Int) < (L1 : Int) := by have := hF1.lt; omega

  have hFH1 := hide hF1; have hpH1 := hide hp
  have hsz1 : base ≤ w.drew.heap.size := Nat.le_trans hbase hM0.size
  clear hF1 hp hL1
  go_upto_region 1 with fail
  go_cut [27] from 10 to 26 (fun v w' => ∃ c', ((c' = c ∧ s.own = r.own) ∨ σ c' = none) ∧ c' ≠ n ∧ Rep base w' (upd (upd σ c' { s with own := r.own }) n { r with cs := r.cs.set (i) c' }) ∧ MutC base n w w' ∧ NB B w' (upd (upd σ c' { s with own := r.own }) n { r with cs := r.cs.set (i) c' }))
  case first =>
    refine wp_region_held_drew (S := fun w' => w'.cell? ⟨n, 1, none⟩ = some (.slice (some ⟨gc1, 0, none⟩) L1 cap1) ∧ w'.cell? ⟨n, 2, none⟩ = some (.pointer (some ⟨r.own, 0, none⟩))) (by kernel_rfl) ⟨a11, a21⟩ (fun hHeld => ?_)
    refine wpAnyH_take (i := 0) (v := ?_) rfl (by kernel_rfl) (by kernel_rfl) (by kernel_rfl) (fun _ _ _ h => h) (Or.inl ⟨by rfl, ?_⟩) hHeld ?_
    rotate_left
    · (intro w hSw; (try dsimp only at hSw); go_simp; try with_reducible rfl)
    try simp only [Act.put, List.setIfInBounds_toArray, List.set_cons_zero, List.set_cons_succ]
    refine wpAnyH_take (i := 1) (v := ?_) rfl (by kernel_rfl) (by kernel_rfl) (by kernel_rfl) (fun _ _ _ h => h) (Or.inl ⟨by rfl, ?_⟩) hHeld ?_
    rotate_left
    · (intro w hSw; (try dsimp only at hSw); go_simp; try with_reducible rfl)
    try simp only [Act.put, List.setIfInBounds_toArray, List.set_cons_zero, List.set_cons_succ]
    refine wpAnyH_take (i := 2) (v := ?_) rfl (by kernel_rfl) (by kernel_rfl) (by kernel_rfl) (fun _ _ _ h => h) (Or.inl ⟨by rfl, ?_⟩) hHeld ?_
    rotate_left
    · (intro w hSw; (try dsimp only at hSw); go_simp; try with_reducible rfl)
    try simp only [Act.put, List.setIfInBounds_toArray, List.set_cons_zero, List.set_cons_succ]
    refine wpAnyH_take (i := 3) (v := ?_) rfl (by kernel_rfl) (by kernel_rfl) (by kernel_rfl) (fun _ _ _ h => h) (Or.inl ⟨by rfl, ?_⟩) hHeld ?_
    rotate_left
    · (intro w hSw; (try dsimp only at hSw); go_simp; try with_reducible rfl)
    try simp only [Act.put, List.setIfInBounds_toArray, List.set_cons_zero, List.set_cons_succ]
    refine wpAnyH_take (i := 4) (v := ?_) rfl (by kernel_rfl) (by kernel_rfl) (by kernel_rfl) (fun _ _ _ h => h) (Or.inl ⟨by rfl, ?_⟩) hHeld ?_
    rotate_left
    · (intro w hSw; (try dsimp only at hSw); go_simp; try with_reducible rfl)
    try simp only [Act.put, List.setIfInBounds_toArray, List.set_cons_zero, List.set_cons_succ]
    refine wpAnyH_take (i := 5) (v := ?_) rfl (by kernel_rfl) (by kernel_rfl) (by kernel_rfl) (fun _ _ _ h => h) (Or.inl ⟨by rfl, ?_⟩) hHeld ?_
    rotate_left
    · (intro w hSw; (try dsimp only at hSw); go_simp; try with_reducible rfl)
    try simp only [Act.put, List.setIfInBounds_toArray, List.set_cons_zero, List.set_cons_succ]
    refine wpAnyH_take (i := 6) (v := ?_) rfl (by kernel_rfl) (by kernel_rfl) (by kernel_rfl) (fun _ _ _ h => h) (Or.inl ⟨by rfl, ?_⟩) hHeld ?_
    rotate_left
    · (intro w hSw; (try dsimp only at hSw); go_simp; try with_reducible rfl)
    try simp only [Act.put, List.setIfInBounds_toArray, List.set_cons_zero, List.set_cons_succ]
    refine wpAnyH_take (i := 7) (v := ?_) rfl (by kernel_rfl) (by kernel_rfl) (by kernel_rfl) (fun _ _ _ h => h) (Or.inl ⟨by rfl, ?_⟩) hHeld ?_
    rotate_left
    · (intro w hSw; (try dsimp only at hSw); go_simp; try with_reducible rfl)
    try simp only [Act.put, List.setIfInBounds_toArray, List.set_cons_zero, List.set_cons_succ]
    refine wpAnyH_take (i := 8) (v := ?_) rfl (by kernel_rfl) (by kernel_rfl) (by kernel_rfl) (fun _ _ _ h => h) (Or.inl ⟨by rfl, ?_⟩) hHeld ?_
    rotate_left
    · (intro w hSw; (try dsimp only at hSw); go_simp; try with_reducible rfl)
    try simp only [Act.put, List.setIfInBounds_toArray, List.set_cons_zero, List.set_cons_succ]
    refine wpAnyH_take (i := 9) (v := ?_) rfl (by kernel_rfl) (by kernel_rfl) (by kernel_rfl) (fun _ _ _ h => h) (Or.inl ⟨by rfl, ?_⟩) hHeld ?_
    rotate_left
    · (intro w hSw; (try dsimp only at hSw); go_simp; try with_reducible rfl)
    try simp only [Act.put, List.setIfInBounds_toArray, List.set_cons_zero, List.set_cons_succ]
    refine wpAnyH_take (i := 10) (v := ?_) rfl (by kernel_rfl) (by kernel_rfl) (by kernel_rfl) (fun _ _ _ h => h) (Or.inl ⟨by rfl, ?_⟩) hHeld ?_
    rotate_left
    · (intro w hSw; (try dsimp only at hSw); go_simp; try with_reducible rfl)
    try simp only [Act.put, List.setIfInBounds_toArray, List.set_cons_zero, List.set_cons_succ]
    refine wpAnyH_take (i := 11) (v := ?_) rfl (by kernel_rfl) (by kernel_rfl) (by kernel_rfl) (fun _ _ _ h => h) (Or.inl ⟨by rfl, ?_⟩) hHeld ?_
    rotate_left
    · (intro w hSw; (try dsimp only at hSw); go_simp; try with_reducible rfl)
    try simp only [Act.put, List.setIfInBounds_toArray, List.set_cons_zero, List.set_cons_succ]
    refine wpAnyH_take (i := 12) (v := ?_) rfl (by kernel_rfl) (by kernel_rfl) (by kernel_rfl) (fun _ _ _ h => h) (Or.inl ⟨by rfl, ?_⟩) hHeld ?_
    rotate_left
    · (intro w hSw; (try dsimp only at hSw); go_simp; try with_reducible rfl)
    try simp only [Act.put, List.setIfInBounds_toArray, List.set_cons_zero, List.set_cons_succ]
    refine wpAnyH_take (i := 13) (v := ?_) rfl (by kernel_rfl) (by kernel_rfl) (by kernel_rfl) (fun _ _ _ h => h) (Or.inl ⟨by rfl, ?_⟩) hHeld ?_
    rotate_left
    · (intro w hSw; (try dsimp only at hSw); go_simp; try with_reducible rfl)
    try simp only [Act.put, List.setIfInBounds_toArray, List.set_cons_zero, List.set_cons_succ]
    refine wpAnyH_take (i := 14) (v := ?_) rfl (by kernel_rfl) (by kernel_rfl) (by kernel_rfl) (fun _ _ _ h => h) (Or.inl ⟨by rfl, ?_⟩) hHeld ?_
    rotate_left
    · (intro w hSw; (try dsimp only at hSw); go_simp; try with_reducible rfl)
    try simp only [Act.put, List.setIfInBounds_toArray, List.set_cons_zero, List.set_cons_succ]
    refine wpAnyH_ready (rs := [15]) (by kernel_rfl) (by simp) ?_
    refine AllReadyH.cons rfl (fun K hK => ?_) AllReadyH.nil
    go_simp
    refine hK.out _ _ ⟨a11, a21⟩ (fun hHeld => ?_)
    clear hK K
    try simp only [Act.put, List.setIfInBounds_toArray, List.set_cons_zero, List.set_cons_succ]
    refine wpAnyH_ready (rs := [16]) (by kernel_rfl) (by simp) ?_
    refine AllReadyH.cons rfl (fun K hK => ?_) AllReadyH.nil
    go_simp
    refine (writable2 base c r.own s σ ph _ hFH1.out.pd hs hFH1.out.no (by omega) (by omega) (by omega) hsz1).mono ?_
    rintro e w1 ⟨c', ph', rfl, hg1, hor, hp1, hph, hfr⟩
    have hg2 : w.grownBy w1 none := grown_trans (grown_drew (grown_refl w none)) hg1
    obtain ⟨q1, q2, q3, q4⟩ := hFH1.out.far w1 hg2
    go_wp2_with fail
    refine hK.out _ _ ⟨q2, q3⟩ (fun hHeld => ?_)
    clear hK K
    try simp only [Act.put, List.setIfInBounds_toArray, List.set_cons_zero, List.set_cons_succ]
    refine wpAnyH_take (i := 17) (v := ?_) rfl (by kernel_rfl) (by kernel_rfl) (by kernel_rfl) (fun _ _ _ h => h) (Or.inl ⟨by rfl, ?_⟩) hHeld ?_
    rotate_left
    · (intro w hSw; (try dsimp only at hSw); go_simp; try with_reducible rfl)
    try simp only [Act.put, List.setIfInBounds_toArray, List.set_cons_zero, List.set_cons_succ]
    refine wpAnyH_ready (rs := [18]) (by kernel_rfl) (by simp) ?_
    refine AllReadyH.cons rfl (fun K hK => ?_) AllReadyH.nil
    go_simp
    refine hK.out _ _ ⟨cell_off hFH1.out.gn q2, cell_off hFH1.out.gn q3⟩ (fun hHeld => ?_)
    clear hK K
    try simp only [Act.put, List.setIfInBounds_toArray, List.set_cons_zero, List.set_cons_succ]
    refine wpAnyH_done (by kernel_rfl) ?_ _
    go_wp2_with fail
    go_meet
    go_light
    have hcn' : c' ≠ n := by
      rcases hor with h | h
      · rw [h.1]; exact hcn
      · exact fun e => by rw [e, hr] at h; cases h
    have hcw := hFH1.out.fin w1 c' _ ph' hg2 hp1 hph hcn' hsz1
    exact ⟨c', hor, hcn', hcw.1, hM0.trans ⟨hcw.2, KC.of_eq (hFH1.out.kc w1 _ hg2)⟩, nb_cow hFH1.out hr hN0 hg2 hp1 hcn' hph hfr⟩
  case rest =>
    obtain ⟨c1, hor1, hcn1, hR1, hM1, hN1⟩ := hcut
    clear hFH1 hpH1 a11 a21 a31 a41 hsz1 
    rename World => W1
    obtain ⟨σ1, r1, s1, hσ1, hr1d, hs1d, hn1, hcs1, hk1, hkp1, hre1, hro1, hrl1, hg1, hse1, hsc1', hso1, hoth1, hf1⟩ := cow_next hr hgoal.out (by omega) (by omega) hc hs hor1 hcn1
    rw [← hσ1] at hR1 hN1
    have hl1 : r1.cs.getD p 0 = l := by rw [hoth1 p (by have := hipH.out; omega)]; exact hl
    have ht1 : σ1 l = some t := hf1 l t hln ht
    obtain ⟨ph1, hp1⟩ := hR1
    have hpL : p < r1.cs.length := by have := hipH.out; have := hlenH.out; omega
    have hiL1 : i < r1.cs.length := by omega
    have hiE1 : i < r1.es.length := by rw [hre1]; exact him
    have hT : (15 : Int) < (t.es.length : Int) := by omega
    have hi0 : ¬ (0 : Int) < (i : Int) := by have := hizH.out; omega
    have hkH1 := hide hk1; have hkpH1 := hide hkp1; have hothH1 := hide hoth1; have hfH1 := hide hf1; have hseH1 := hide hse1; have hscH1 := hide hsc1'; have hreH1 := hide hre1; have hroH1 := hide hro1; have hsoH1 := hide hso1
    have hs15 : s1.es.length = 15 := by rw [hse1]; exact hsl
    have hrl1' : r1.cs.length < 100 := by omega
    clear hσ1 hr1d hs1d hk1 hkp1 hoth1 hf1 hse1 hsc1' hre1 hl hc hrl1 hro1 hso1
    obtain ⟨L2, hL2⟩ : ∃ L, L = r1.cs.length := ⟨_, rfl⟩
    obtain ⟨gc2, cap2, hF2⟩ := cowF hp1 hn1 hpL hl1 hL2
    have a12 := hF2.c1; have a22 := hF2.c2; have a32 := hF2.k0; have a42 : (p : Int) < (L2 : Int) := by have := hF2.lt; omega
    obtain ⟨gs2, caps2, hvs2, hls2, hlsm2, hgs2⟩ := ownsRow_pos (hp1.nd c1 s1 hcs1).ents (by omega)
    obtain ⟨gt2, capt2, hvt2, hlt2, hltm2, hgt2⟩ := ownsRow_pos (hp1.nd l t ht1).ents (by omega)
    obtain ⟨ge2, cape2, hve2, hle2, hlem2, hge2⟩ := ownsRow_pos (hp1.nd n r1 hn1).ents (by omega)
    obtain ⟨LE2, hLE2⟩ : ∃ L, L = r1.es.length := ⟨_, rfl⟩
    have b1 := kid_cell hp1 hn1 hF2.vc i hiL1
    rw [hg1] at b1
    have b2 := hp1.c0 hcs1
    rw [hvs2, hs15] at b2
    have b3 := hp1.c0 ht1
    rw [hvt2] at b3
    have b4 : (i : Int) < (L2 : Int) := by omega
    have b5 := hp1.c0 hn1
    rw [hve2, ← hLE2] at b5
    have b6 : (i : Int) < (LE2 : Int) := by omega
    clear hvs2 hvt2 hls2 hlsm2 hgs2 hlt2 hltm2 hgt2 hve2 hle2 hlem2 hge2 hLE2
    have hFH2 := hide hF2; have hpH2 := hide hp1
    have hsz2 : base ≤ W1.drew.heap.size := Nat.le_trans hbase hM1.size
    clear hF2 hp1 hL2
    go_upto_region 18 with fail
    go_cut [213] from 194 to 212 (fun v w' => ∃ c', ((c' = l ∧ t.own = r1.own) ∨ σ1 c' = none) ∧ c' ≠ n ∧ Rep base w' (upd (upd σ1 c' { t with own := r1.own }) n { r1 with cs := r1.cs.set (p) c' }) ∧ MutC base n w w' ∧ NB B w' (upd (upd σ1 c' { t with own := r1.own }) n { r1 with cs := r1.cs.set (p) c' }))
    case first =>
      refine wp_region_held_drew (S := fun w' => w'.cell? ⟨n, 1, none⟩ = some (.slice (some ⟨gc2, 0, none⟩) L2 cap2) ∧ w'.cell? ⟨n, 2, none⟩ = some (.pointer (some ⟨r1.own, 0, none⟩))) (by kernel_rfl) ⟨a12, a22⟩ (fun hHeld => ?_)
      refine wpAnyH_take (i := 0) (v := ?_) rfl (by kernel_rfl) (by kernel_rfl) (by kernel_rfl) (fun _ _ _ h => h) (Or.inl ⟨by rfl, ?_⟩) hHeld ?_
      rotate_left
      · (intro w hSw; (try dsimp only at hSw); go_simp; try with_reducible rfl)
      try simp only [Act.put, List.setIfInBounds_toArray, List.set_cons_zero, List.set_cons_succ]
      refine wpAnyH_take (i := 1) (v := ?_) rfl (by kernel_rfl) (by kernel_rfl) (by kernel_rfl) (fun _ _ _ h => h) (Or.inl ⟨by rfl, ?_⟩) hHeld ?_
      rotate_left
      · (intro w hSw; (try dsimp only at hSw); go_simp; try with_reducible rfl)
      try simp only [Act.put, List.setIfInBounds_toArray, List.set_cons_zero, List.set_cons_succ]
      refine wpAnyH_take (i := 2) (v := ?_) rfl (by kernel_rfl) (by kernel_rfl) (by kernel_rfl) (fun _ _ _ h => h) (Or.inl ⟨by rfl, ?_⟩) hHeld ?_
      rotate_left
      · (intro w hSw; (try dsimp only at hSw); go_simp; try with_reducible rfl)
      try simp only [Act.put, List.setIfInBounds_toArray, List.set_cons_zero, List.set_cons_succ]
      refine wpAnyH_take (i := 3) (v := ?_) rfl (by kernel_rfl) (by kernel_rfl) (by kernel_rfl) (fun _ _ _ h => h) (Or.inl ⟨by rfl, ?_⟩) hHeld ?_
      rotate_left
      · (intro w hSw; (try dsimp only at hSw); go_simp; try with_reducible rfl)
      try simp only [Act.put, List.setIfInBounds_toArray, List.set_cons_zero, List.set_cons_succ]
      refine wpAnyH_take (i := 4) (v := ?_) rfl (by kernel_rfl) (by kernel_rfl) (by kernel_rfl) (fun _ _ _ h => h) (Or.inl ⟨by rfl, ?_⟩) hHeld ?_
      rotate_left
      · (intro w hSw; (try dsimp only at hSw); go_simp; try with_reducible rfl)
      try simp only [Act.put, List.setIfInBounds_toArray, List.set_cons_zero, List.set_cons_succ]
      refine wpAnyH_take (i := 5) (v := ?_) rfl (by kernel_rfl) (by kernel_rfl) (by kernel_rfl) (fun _ _ _ h => h) (Or.inl ⟨by rfl, ?_⟩) hHeld ?_
      rotate_left
      · (intro w hSw; (try dsimp only at hSw); go_simp; try with_reducible rfl)
      try simp only [Act.put, List.setIfInBounds_toArray, List.set_cons_zero, List.set_cons_succ]
      refine wpAnyH_take (i := 6) (v := ?_) rfl (by kernel_rfl) (by kernel_rfl) (by kernel_rfl) (fun _ _ _ h => h) (Or.inl ⟨by rfl, ?_⟩) hHeld ?_
      rotate_left
      · (intro w hSw; (try dsimp only at hSw); go_simp; try with_reducible rfl)
      try simp only [Act.put, List.setIfInBounds_toArray, List.set_cons_zero, List.set_cons_succ]
      refine wpAnyH_take (i := 7) (v := ?_) rfl (by kernel_rfl) (by kernel_rfl) (by kernel_rfl) (fun _ _ _ h => h) (Or.inl ⟨by rfl, ?_⟩) hHeld ?_
      rotate_left
      · (intro w hSw; (try dsimp only at hSw); go_simp; try with_reducible rfl)
      try simp only [Act.put, List.setIfInBounds_toArray, List.set_cons_zero, List.set_cons_succ]
      refine wpAnyH_take (i := 8) (v := ?_) rfl (by kernel_rfl) (by kernel_rfl) (by kernel_rfl) (fun _ _ _ h => h) (Or.inl ⟨by rfl, ?_⟩) hHeld ?_
      rotate_left
      · (intro w hSw; (try dsimp only at hSw); go_simp; try with_reducible rfl)
      try simp only [Act.put, List.setIfInBounds_toArray, List.set_cons_zero, List.set_cons_succ]
      refine wpAnyH_take (i := 9) (v := ?_) rfl (by kernel_rfl) (by kernel_rfl) (by kernel_rfl) (fun _ _ _ h => h) (Or.inl ⟨by rfl, ?_⟩) hHeld ?_
      rotate_left
      · (intro w hSw; (try dsimp only at hSw); go_simp; try with_reducible rfl)
      try simp only [Act.put, List.setIfInBounds_toArray, List.set_cons_zero, List.set_cons_succ]
      refine wpAnyH_take (i := 10) (v := ?_) rfl (by kernel_rfl) (by kernel_rfl) (by kernel_rfl) (fun _ _ _ h => h) (Or.inl ⟨by rfl, ?_⟩) hHeld ?_
      rotate_left
      · (intro w hSw; (try dsimp only at hSw); go_simp; try with_reducible rfl)
      try simp only [Act.put, List.setIfInBounds_toArray, List.set_cons_zero, List.set_cons_succ]
      refine wpAnyH_take (i := 11) (v := ?_) rfl (by kernel_rfl) (by kernel_rfl) (by kernel_rfl) (fun _ _ _ h => h) (Or.inl ⟨by rfl, ?_⟩) hHeld ?_
      rotate_left
      · (intro w hSw; (try dsimp only at hSw); go_simp; try with_reducible rfl)
      try simp only [Act.put, List.setIfInBounds_toArray, List.set_cons_zero, List.set_cons_succ]
      refine wpAnyH_take (i := 12) (v := ?_) rfl (by kernel_rfl) (by kernel_rfl) (by kernel_rfl) (fun _ _ _ h => h) (Or.inl ⟨by rfl, ?_⟩) hHeld ?_
      rotate_left
      · (intro w hSw; (try dsimp only at hSw); go_simp; try with_reducible rfl)
      try simp only [Act.put, List.setIfInBounds_toArray, List.set_cons_zero, List.set_cons_succ]
      refine wpAnyH_take (i := 13) (v := ?_) rfl (by kernel_rfl) (by kernel_rfl) (by kernel_rfl) (fun _ _ _ h => h) (Or.inl ⟨by rfl, ?_⟩) hHeld ?_
      rotate_left
      · (intro w hSw; (try dsimp only at hSw); go_simp; try with_reducible rfl)
      try simp only [Act.put, List.setIfInBounds_toArray, List.set_cons_zero, List.set_cons_succ]
      refine wpAnyH_take (i := 14) (v := ?_) rfl (by kernel_rfl) (by kernel_rfl) (by kernel_rfl) (fun _ _ _ h => h) (Or.inl ⟨by rfl, ?_⟩) hHeld ?_
      rotate_left
      · (intro w hSw; (try dsimp only at hSw); go_simp; try with_reducible rfl)
      try simp only [Act.put, List.setIfInBounds_toArray, List.set_cons_zero, List.set_cons_succ]
      refine wpAnyH_take (i := 15) (v := ?_) rfl (by kernel_rfl) (by kernel_rfl) (by kernel_rfl) (fun _ _ _ h => h) (Or.inl ⟨by rfl, ?_⟩) hHeld ?_
      rotate_left
      · (intro w hSw; (try dsimp only at hSw); go_simp; try with_reducible rfl)
      try simp only [Act.put, List.setIfInBounds_toArray, List.set_cons_zero, List.set_cons_succ]
      refine wpAnyH_take (i := 16) (v := ?_) rfl (by kernel_rfl) (by kernel_rfl) (by kernel_rfl) (fun _ _ _ h => h) (Or.inl ⟨by rfl, ?_⟩) hHeld ?_
      rotate_left
      · (intro w hSw; (try dsimp only at hSw); go_simp; try with_reducible rfl)
      try simp only [Act.put, List.setIfInBounds_toArray, List.set_cons_zero, List.set_cons_succ]
      refine wpAnyH_ready (rs := [17]) (by kernel_rfl) (by simp) ?_
      refine AllReadyH.cons rfl (fun K hK => ?_) AllReadyH.nil
      go_simp
      refine hK.out _ _ ⟨a12, a22⟩ (fun hHeld => ?_)
      clear hK K
      try simp only [Act.put, List.setIfInBounds_toArray, List.set_cons_zero, List.set_cons_succ]
      refine wpAnyH_ready (rs := [18]) (by kernel_rfl) (by simp) ?_
      refine AllReadyH.cons rfl (fun K hK => ?_) AllReadyH.nil
      go_simp
      refine (writable2 base l r1.own t σ1 ph1 _ hFH2.out.pd ht1 hFH2.out.no (by omega) (by omega) (by omega) hsz2).mono ?_
      rintro e w1 ⟨c', ph', rfl, hg1, hor, hp1, hph, hfr⟩
      have hg2 : W1.grownBy w1 none := grown_trans (grown_drew (grown_refl W1 none)) hg1
      obtain ⟨q1, q2, q3, q4⟩ := hFH2.out.far w1 hg2
      go_wp2_with fail
      refine hK.out _ _ ⟨q2, q3⟩ (fun hHeld => ?_)
      clear hK K
      try simp only [Act.put, List.setIfInBounds_toArray, List.set_cons_zero, List.set_cons_succ]
      refine wpAnyH_take (i := 19) (v := ?_) rfl (by kernel_rfl) (by kernel_rfl) (by kernel_rfl) (fun _ _ _ h => h) (Or.inl ⟨by rfl, ?_⟩) hHeld ?_
      rotate_left
      · (intro w hSw; (try dsimp only at hSw); go_simp; try with_reducible rfl)
      try simp only [Act.put, List.setIfInBounds_toArray, List.set_cons_zero, List.set_cons_succ]
      refine wpAnyH_ready (rs := [20]) (by kernel_rfl) (by simp) ?_
      refine AllReadyH.cons rfl (fun K hK => ?_) AllReadyH.nil
      go_simp
      refine hK.out _ _ ⟨cell_off hFH2.out.gn q2, cell_off hFH2.out.gn q3⟩ (fun hHeld => ?_)
      clear hK K
      try simp only [Act.put, List.setIfInBounds_toArray, List.set_cons_zero, List.set_cons_succ]
      refine wpAnyH_done (by kernel_rfl) ?_ _
      go_wp2_with fail
      go_meet
      go_light
      have hcn' : c' ≠ n := by
        rcases hor with h | h
        · rw [h.1]; exact hln
        · exact fun e => by rw [e, hn1] at h; cases h
      have hcw := hFH2.out.fin w1 c' _ ph' hg2 hp1 hph hcn' hsz2
      exact ⟨c', hor, hcn', hcw.1, hM1.trans ⟨hcw.2, KC.of_eq (hFH2.out.kc w1 _ hg2)⟩, nb_cow hFH2.out hn1 hN1 hg2 hp1 hcn' hph hfr⟩
    case rest =>
      obtain ⟨c2, hor2, hcn2, hR2, hM2, hN2⟩ := hcut
      clear hFH2 hpH2 a12 a22 a32 a42 hsz2 b1 b2 b3 b4 b5 b6
      rename World => W2
      have hkk := hkH1.out
      obtain ⟨σ2, r2, t2, hσ2, hr2d, ht2d, hn2, hcs2, hk2, hkp2, hre2, hro2, hrl2, hg2, hte2, htc2, hto2, hoth2, hf2⟩ := cow_next hn1 hkk (by have := hipH.out; omega) (by omega) hl1 ht1 hor2 hcn2
      rw [← hσ2] at hR2 hN2
      have hcc2 : σ2 c1 = some s1 := hf2 c1 s1 hcn1 hcs1
      have hgi2 : r2.cs.getD i 0 = c1 := by rw [hoth2 i (by have := hipH.out; omega)]; exact hg1
      have hm2 : i < r2.es.length := by rw [hre2]; exact hiE1
      have hne2 : c2 ≠ c1 := by
        have := kid_two hn2 hk2 hm2
        rw [hgi2, show i + 1 = p from hipH.out.symm, hg2] at this
        exact Ne.symm this
      obtain ⟨ph2, hp2⟩ := hR2
      obtain ⟨j, hj⟩ : ∃ j, t.es.length = j + 1 := ⟨t.es.length - 1, by omega⟩
      have hj15 : 15 ≤ j := by omega
      have hj31 : j < 100 := by omega
      have hpL2 : p < r2.cs.length := by omega
      have hk2H := hide hk2; have hkp2H := hide hkp2; have hre2H := hide hre2; have hro2H := hide hro2; have hto2H := hide hto2; have hte2H := hide hte2; have htc2H := hide htc2; have hg2H := hide hg2; have hgi2H := hide hgi2; have hjH := hide hj; have hs15H := hide hs15; have hrl2H := hide hrl2; have hg1H := hide hg1; have hslH := hide hsl; have hf2H := hide hf2
      have hb2 : base ≤ W2.heap.size := Nat.le_trans hbase hM2.size
      clear hkk hσ2 hr2d ht2d hk2 hkp2 hre2 hro2 hto2 hte2 htc2 hoth2 hf2 hrl2 hg1 hl1 hg2 hgi2 hj hor1 hor2 hs15 hsl
      obtain ⟨kk3, hkk3⟩ : ∃ kk, r2.es.getD i 0 = kk := ⟨_, rfl⟩
      obtain ⟨E3, hE3⟩ : ∃ E, E = s1.es.length := ⟨_, rfl⟩
      obtain ⟨L3, hL3⟩ : ∃ L, L = r2.es.length := ⟨_, rfl⟩
      obtain ⟨gs3, caps3, gn3, capn3, hF3⟩ := entF hp2 hn2 hcc2 hcn1 hm2 (by rw [hs15H.out]; omega) hb2 hkk3 hE3 hL3
      have e13 := hF3.d0; have e23 := hF3.c0; have e33 := hF3.k0; have e43 := hF3.k1; have e53 := hF3.k2; have e63 := hF3.k3
      have e73 : (i : Int) < (L3 : Int) := by have := hF3.lt; omega
      have e83 : E3 = 15 := by rw [hE3]; exact hs15H.out
      have hE15 : E3 < 1000000 := by omega
      have e93 : ∀ o, (W2.alloc o).cell? ⟨c1, 0, none⟩ = some (.slice (some ⟨gs3, 0, none⟩) E3 caps3) := fun o => (hF3.far _ (grown_alloc o _)).2.1
      obtain ⟨gx3, capx3, hvx3, hlx3, hlmx3, hgx3⟩ := ownsRow_pos (hp2.nd n r2 hn2).kids (by omega)
      have b1 := kid_cell hp2 hn2 hvx3 p hpL2
      rw [hg2H.out] at b1
      have b2 := hp2.c1 hn2
      rw [hvx3] at b2
      have b4 : (p : Int) < (r2.cs.length : Int) := by omega
      have hFH3 := hide hF3; have hpH3 := hide hp2; have hkk3H := hide hkk3; have hE3H := hide hE3
      clear hF3 hp2 hvx3 hlx3 hlmx3 hgx3 hkk3 hE3 hL3 e83
      go_upto_region 20 with fail
      go_cut [237] from 222 to 236 (fun v w' => Rep base w' (upd σ2 c1 { s1 with es := s1.es ++ [kk3] }) ∧ MutC base n w w' ∧ NB B w' (upd σ2 c1 { s1 with es := s1.es ++ [kk3] }))
      case first =>
        refine wp_region_held_drew (S := fun w' => w'.cell? ⟨n, 0, none⟩ = some (.slice (some ⟨gn3, 0, none⟩) L3 capn3) ∧ w'.cell? ⟨gn3, i * 4, none⟩ = some (.string (p6 kk3)) ∧ w'.cell? ⟨gn3, i * 4 + 1, none⟩ = some (.slice none 0 0) ∧ w'.cell? ⟨gn3, i * 4 + 2, none⟩ = some (.int .u64 kk3) ∧ w'.cell? ⟨gn3, i * 4 + 3, none⟩ = some (.int .u64 0)) (by kernel_rfl) ⟨e23, e33, e43, e53, e63⟩ (fun hHeld => ?_)
        refine wpAnyH_take (i := 0) (v := ?_) rfl (by kernel_rfl) (by kernel_rfl) (by kernel_rfl) (fun _ _ _ h => h) (Or.inl ⟨by rfl, ?_⟩) hHeld ?_
        rotate_left
        · (intro w hSw; (try dsimp only at hSw); go_simp; try with_reducible rfl)
        try simp only [Act.put, List.setIfInBounds_toArray, List.set_cons_zero, List.set_cons_succ]
        refine wpAnyH_take (i := 1) (v := ?_) rfl (by kernel_rfl) (by kernel_rfl) (by kernel_rfl) (fun _ _ _ h => h) (Or.inl ⟨by rfl, ?_⟩) hHeld ?_
        rotate_left
        · (intro w hSw; (try dsimp only at hSw); go_simp; try with_reducible rfl)
        try simp only [Act.put, List.setIfInBounds_toArray, List.set_cons_zero, List.set_cons_succ]
        refine wpAnyH_take (i := 2) (v := ?_) rfl (by kernel_rfl) (by kernel_rfl) (by kernel_rfl) (fun _ _ _ h => h) (Or.inl ⟨by rfl, ?_⟩) hHeld ?_
        rotate_left
        · (intro w hSw; (try dsimp only at hSw); go_simp; try with_reducible rfl)
        try simp only [Act.put, List.setIfInBounds_toArray, List.set_cons_zero, List.set_cons_succ]
        refine wpAnyH_take (i := 3) (v := ?_) rfl (by kernel_rfl) (by kernel_rfl) (by kernel_rfl) (fun _ _ _ h => h) (Or.inl ⟨by rfl, ?_⟩) hHeld ?_
        rotate_left
        · (intro w hSw; (try dsimp only at hSw); go_simp; try with_reducible rfl)
        try simp only [Act.put, List.setIfInBounds_toArray, List.set_cons_zero, List.set_cons_succ]
        refine wpAnyH_take (i := 5) (v := ?_) rfl (by kernel_rfl) (by kernel_rfl) (by kernel_rfl) (fun _ _ _ h => h) (Or.inl ⟨by rfl, ?_⟩) hHeld ?_
        rotate_left
        · (intro w hSw; (try dsimp only at hSw); go_simp; try with_reducible rfl)
        try simp only [Act.put, List.setIfInBounds_toArray, List.set_cons_zero, List.set_cons_succ]
        refine wpAnyH_take (i := 6) (v := ?_) rfl (by kernel_rfl) (by kernel_rfl) (by kernel_rfl) (fun _ _ _ h => h) (Or.inl ⟨by rfl, ?_⟩) hHeld ?_
        rotate_left
        · (intro w hSw; (try dsimp only at hSw); go_simp; try with_reducible rfl)
        try simp only [Act.put, List.setIfInBounds_toArray, List.set_cons_zero, List.set_cons_succ]
        refine wpAnyH_take (i := 7) (v := ?_) rfl (by kernel_rfl) (by kernel_rfl) (by kernel_rfl) (fun _ _ _ h => h) (Or.inl ⟨by rfl, ?_⟩) hHeld ?_
        rotate_left
        · (intro w hSw; (try dsimp only at hSw); go_simp; try with_reducible rfl)
        try simp only [Act.put, List.setIfInBounds_toArray, List.set_cons_zero, List.set_cons_succ]
        refine wpAnyH_take (i := 8) (v := ?_) rfl (by kernel_rfl) (by kernel_rfl) (by kernel_rfl) (fun _ _ _ h => h) (Or.inl ⟨by rfl, ?_⟩) hHeld ?_
        rotate_left
        · (intro w hSw; (try dsimp only at hSw); go_simp; try with_reducible rfl)
        try simp only [Act.put, List.setIfInBounds_toArray, List.set_cons_zero, List.set_cons_succ]
        refine wpAnyH_take (i := 9) (v := ?_) rfl (by kernel_rfl) (by kernel_rfl) (by kernel_rfl) (fun _ _ _ h => h) (Or.inl ⟨by rfl, ?_⟩) hHeld ?_
        rotate_left
        · (intro w hSw; (try dsimp only at hSw); go_simp; try with_reducible rfl)
        try simp only [Act.put, List.setIfInBounds_toArray, List.set_cons_zero, List.set_cons_succ]
        refine wpAnyH_take (i := 10) (v := ?_) rfl (by kernel_rfl) (by kernel_rfl) (by kernel_rfl) (fun _ _ _ h => h) (Or.inl ⟨by rfl, ?_⟩) hHeld ?_
        rotate_left
        · (intro w hSw; (try dsimp only at hSw); go_simp; try with_reducible rfl)
        try simp only [Act.put, List.setIfInBounds_toArray, List.set_cons_zero, List.set_cons_succ]
        refine wpAnyH_take (i := 11) (v := ?_) rfl (by kernel_rfl) (by kernel_rfl) (by kernel_rfl) (fun _ _ _ h => h) (Or.inl ⟨by rfl, ?_⟩) hHeld ?_
        rotate_left
        · (intro w hSw; (try dsimp only at hSw); go_simp; try with_reducible rfl)
        try simp only [Act.put, List.setIfInBounds_toArray, List.set_cons_zero, List.set_cons_succ]
        refine wpAnyH_ready (rs := [4, 12]) (by kernel_rfl) (by simp) ?_
        refine AllReadyH.cons rfl (fun K hK => ?_) (AllReadyH.cons rfl (fun K hK => ?_) AllReadyH.nil)
        · go_simp
          refine hK.out _ _ ⟨e23, e33, e43, e53, e63⟩ (fun hHeld => ?_)
          clear hK K
          try simp only [Act.put, List.setIfInBounds_toArray, List.set_cons_zero, List.set_cons_succ]
          refine wpAnyH_ready (rs := [12]) (by kernel_rfl) (by simp) ?_
          refine AllReadyH.cons rfl (fun K hK => ?_) AllReadyH.nil
          go_simp
          refine hK.out _ _ (hFH3.out.far _ (grown_trans (grown_drew (grown_refl W2 _)) (grown_alloc _ _))).2.2 (fun hHeld => ?_)
          clear hK K
          try simp only [Act.put, List.setIfInBounds_toArray, List.set_cons_zero, List.set_cons_succ]
          refine wpAnyH_ready (rs := [13]) (by kernel_rfl) (by simp) ?_
          refine AllReadyH.cons rfl (fun K hK => ?_) AllReadyH.nil
          obtain ⟨i0, hi0', hz0, hz1, hz2⟩ := info_parts infoEn
          refine step_append_lies _ (by rfl) _ _ 61 (by rfl) base 75 i0 zEn 4 56 Try.underlying61 hi0' hz0 hz1 hz2 rfl (by omega) (.slice (some ⟨gs3, 0, none⟩) E3 caps3) E3 (encE s1.es) (by simp [Act.eval, Act.put]) hFH3.out.o1 ⟨W2.heap.size, 0, none⟩ 1 1 (enE kk3) (by simp [Act.eval, Act.put]) rfl (World.news_of_block hFH3.out.o2) (by rw [← encE_one]; exact encE_cell1 _) (by omega) (by unfold maxLen; omega) (by omega) (by simp; omega) (W2.heap.size + 1) (by simp) ?_
          intro g8 cap8 w8 hown8 hgr8 hat8 hlt8
          have hgW : W2.grownBy w8 (some gs3) := grown_trans (grown_drew (grown_alloc _ _)) hgr8
          obtain ⟨f8, q8, qq⟩ := hFH3.out.far _ hgW
          refine hK.out _ _ qq (fun hHeld => ?_)
          clear hK K
          try simp only [Act.put, List.setIfInBounds_toArray, List.set_cons_zero, List.set_cons_succ]
          refine wpAnyH_take (i := 14) (v := ?_) rfl (by kernel_rfl) (by kernel_rfl) (by kernel_rfl) (fun _ _ _ h => h) (Or.inl ⟨by rfl, ?_⟩) hHeld ?_
          rotate_left
          · (intro w hSw; (try dsimp only at hSw); go_simp; try with_reducible rfl)
          try simp only [Act.put, List.setIfInBounds_toArray, List.set_cons_zero, List.set_cons_succ]
          refine wpAnyH_take (i := 15) (v := ?_) rfl (by kernel_rfl) (by kernel_rfl) (by kernel_rfl) (fun _ _ _ h => h) (Or.inl ⟨by rfl, ?_⟩) hHeld ?_
          rotate_left
          · (intro w hSw; (try dsimp only at hSw); go_simp; try with_reducible rfl)
          try simp only [Act.put, List.setIfInBounds_toArray, List.set_cons_zero, List.set_cons_succ]
          refine wpAnyH_ready (rs := [16]) (by kernel_rfl) (by simp) ?_
          refine AllReadyH.cons rfl (fun K hK => ?_) AllReadyH.nil
          go_simp
          refine hK.out _ _ ⟨cell_off hFH3.out.xn qq.1, cell_off hFH3.out.xg qq.2.1, cell_off hFH3.out.xg qq.2.2.1, cell_off hFH3.out.xg qq.2.2.2.1, cell_off hFH3.out.xg qq.2.2.2.2⟩ (fun hHeld => ?_)
          clear hK K
          try simp only [Act.put, List.setIfInBounds_toArray, List.set_cons_zero, List.set_cons_succ]
          refine wpAnyH_done (by kernel_rfl) ?_ _
          go_wp2_with fail
          go_meet
          go_light
          have hfin := hFH3.out.fin w8 g8 (E3 + 1) cap8 (s1.es ++ [kk3]) hgW (by rw [hE3H.out]; simp) (by rw [encE_append, encE_one]; exact hown8) (by rcases hat8 with h | h; exact .inl h; exact .inr (by rw [h]; simp))
          exact ⟨hfin.1, hM2.trans ⟨hfin.2, KC.of_eq (hFH3.out.kc n r2 hn2 w8 _ hgW)⟩, nb_E hpH3.out hN2 hcc2 hFH3.out.d0 hgW (by rcases hat8 with h | h; exact .inl (by simpa [Value.ownBlock] using h); exact .inr (by rw [h]; simp))⟩
        · go_simp
          refine hK.out _ _ (hFH3.out.far _ (grown_trans (grown_drew (grown_refl W2 _)) (grown_alloc _ _))).2.2 (fun hHeld => ?_)
          clear hK K
          try simp only [Act.put, List.setIfInBounds_toArray, List.set_cons_zero, List.set_cons_succ]
          refine wpAnyH_ready (rs := [4]) (by kernel_rfl) (by simp) ?_
          refine AllReadyH.cons rfl (fun K hK => ?_) AllReadyH.nil
          go_simp
          refine hK.out _ _ (hFH3.out.far _ (grown_trans (grown_drew (grown_refl W2 _)) (grown_alloc _ _))).2.2 (fun hHeld => ?_)
          clear hK K
          try simp only [Act.put, List.setIfInBounds_toArray, List.set_cons_zero, List.set_cons_succ]
          refine wpAnyH_ready (rs := [13]) (by kernel_rfl) (by simp) ?_
          refine AllReadyH.cons rfl (fun K hK => ?_) AllReadyH.nil
          obtain ⟨i0, hi0', hz0, hz1, hz2⟩ := info_parts infoEn
          refine step_append_lies _ (by rfl) _ _ 61 (by rfl) base 75 i0 zEn 4 56 Try.underlying61 hi0' hz0 hz1 hz2 rfl (by omega) (.slice (some ⟨gs3, 0, none⟩) E3 caps3) E3 (encE s1.es) (by simp [Act.eval, Act.put]) hFH3.out.o1 ⟨W2.heap.size, 0, none⟩ 1 1 (enE kk3) (by simp [Act.eval, Act.put]) rfl (World.news_of_block hFH3.out.o2) (by rw [← encE_one]; exact encE_cell1 _) (by omega) (by unfold maxLen; omega) (by omega) (by simp; omega) (W2.heap.size + 1) (by simp) ?_
          intro g8 cap8 w8 hown8 hgr8 hat8 hlt8
          have hgW : W2.grownBy w8 (some gs3) := grown_trans (grown_drew (grown_alloc _ _)) hgr8
          obtain ⟨f8, q8, qq⟩ := hFH3.out.far _ hgW
          refine hK.out _ _ qq (fun hHeld => ?_)
          clear hK K
          try simp only [Act.put, List.setIfInBounds_toArray, List.set_cons_zero, List.set_cons_succ]
          refine wpAnyH_take (i := 14) (v := ?_) rfl (by kernel_rfl) (by kernel_rfl) (by kernel_rfl) (fun _ _ _ h => h) (Or.inl ⟨by rfl, ?_⟩) hHeld ?_
          rotate_left
          · (intro w hSw; (try dsimp only at hSw); go_simp; try with_reducible rfl)
          try simp only [Act.put, List.setIfInBounds_toArray, List.set_cons_zero, List.set_cons_succ]
          refine wpAnyH_take (i := 15) (v := ?_) rfl (by kernel_rfl) (by kernel_rfl) (by kernel_rfl) (fun _ _ _ h => h) (Or.inl ⟨by rfl, ?_⟩) hHeld ?_
          rotate_left
          · (intro w hSw; (try dsimp only at hSw); go_simp; try with_reducible rfl)
          try simp only [Act.put, List.setIfInBounds_toArray, List.set_cons_zero, List.set_cons_succ]
          refine wpAnyH_ready (rs := [16]) (by kernel_rfl) (by simp) ?_
          refine AllReadyH.cons rfl (fun K hK => ?_) AllReadyH.nil
          go_simp
          refine hK.out _ _ ⟨cell_off hFH3.out.xn qq.1, cell_off hFH3.out.xg qq.2.1, cell_off hFH3.out.xg qq.2.2.1, cell_off hFH3.out.xg qq.2.2.2.1, cell_off hFH3.out.xg qq.2.2.2.2⟩ (fun hHeld => ?_)
          clear hK K
          try simp only [Act.put, List.setIfInBounds_toArray, List.set_cons_zero, List.set_cons_succ]
          refine wpAnyH_done (by kernel_rfl) ?_ _
          go_wp2_with fail
          go_meet
          go_light
          have hfin := hFH3.out.fin w8 g8 (E3 + 1) cap8 (s1.es ++ [kk3]) hgW (by rw [hE3H.out]; simp) (by rw [encE_append, encE_one]; exact hown8) (by rcases hat8 with h | h; exact .inl h; exact .inr (by rw [h]; simp))
          exact ⟨hfin.1, hM2.trans ⟨hfin.2, KC.of_eq (hFH3.out.kc n r2 hn2 w8 _ hgW)⟩, nb_E hpH3.out hN2 hcc2 hFH3.out.d0 hgW (by rcases hat8 with h | h; exact .inl (by simpa [Value.ownBlock] using h); exact .inr (by rw [h]; simp))⟩
      case rest =>
        rename World => W3
        obtain ⟨hR3, hM3, hN3⟩ := hcut
        clear hFH3 hpH3 e13 e23 e33 e43 e53 e63 e73 e93 b1 b2 b4 hM2 hb2 hM1
        obtain ⟨s3, hs3⟩ : ∃ s3 : Nd, s3 = { s1 with es := s1.es ++ [kk3] } := ⟨_, rfl⟩
        rw [← hs3] at hR3 hN3
        obtain ⟨σ3, hσ3⟩ : ∃ σ3, σ3 = upd σ2 c1 s3 := ⟨_, rfl⟩
        rw [← hσ3] at hR3 hN3
        have hn3 : σ3 n = some r2 := by rw [hσ3, upd_other _ _ _ (Ne.symm hcn1)]; exact hn2
        have hcs3 : σ3 c2 = some t2 := by rw [hσ3, upd_other _ _ _ hne2]; exact hcs2
        have hcc3 : σ3 c1 = some s3 := by rw [hσ3, upd_same]
        have hσ3H := hide hσ3; have hs3H := hide hs3
        have hb3 : base ≤ W3.heap.size := Nat.le_trans hbase hM3.size
        obtain ⟨ph3, hp3⟩ := hR3
        clear hσ3 hs3
        obtain ⟨kk4, hkk4⟩ : ∃ kk, t2.es.getD 0 0 = kk := ⟨_, rfl⟩
        obtain ⟨E4, hE4⟩ : ∃ E, E = t2.es.length := ⟨_, rfl⟩
        obtain ⟨L4, hL4⟩ : ∃ L, L = r2.es.length := ⟨_, rfl⟩
        have hjt : 0 < t2.es.length := by rw [hte2H.out, hjH.out]; omega
        obtain ⟨gs4, caps4, gn4, capn4, hF4⟩ := putF hp3 hn3 hcs3 hcn2 hm2 hjt hb3 hkk4 hE4 hL4
        have e14 := hF4.d0; have e24 := hF4.c0; have e34 := hF4.k0; have e44 := hF4.k1; have e54 := hF4.k2; have e64 := hF4.k3
        simp only [Nat.zero_mul, Nat.zero_add] at e34 e44 e54 e64
        have e74 : (i : Int) < (L4 : Int) := by have := hF4.lt; omega
        have e84 : (0 : Int) < (E4 : Int) := by have := hF4.ltj; omega
        have e94 : 0 < E4 := by have := hF4.ltj; omega
        have f04 := hF4.fz (i * 4); have f14 := hF4.fz (i * 4 + 1); have f24 := hF4.fz (i * 4 + 2); have f34 := hF4.fz (i * 4 + 3)
        have hng4 := hF4.ng; have hlg4 := hF4.lg; have hgg4 := hF4.gg
        obtain ⟨z0, z1, z2, z3, y0, y1, y2, y3⟩ := hF4.sets
        have hFH4 := hide hF4; have hpH4 := hide hp3; have hkk4H := hide hkk4
        clear hF4 hp3 hkk4 hE4 hL4
        go_upto_region 21 with fail
        go_cut [249] from 238 to 248 (fun v w' => Rep base w' (upd σ3 n { r2 with es := r2.es.set i kk4 }) ∧ MutC base n w w' ∧ NB B w' (upd σ3 n { r2 with es := r2.es.set i kk4 }))
        case first =>
          refine wp_region_held_drew (S := fun w' => w'.cell? ⟨c2, 0, none⟩ = some (.slice (some ⟨gs4, 0, none⟩) E4 caps4) ∧ w'.cell? ⟨n, 0, none⟩ = some (.slice (some ⟨gn4, 0, none⟩) L4 capn4) ∧ w'.cell? ⟨gs4, 0, none⟩ = some (.string (p6 kk4)) ∧ w'.cell? ⟨gs4, 1, none⟩ = some (.slice none 0 0) ∧ w'.cell? ⟨gs4, 2, none⟩ = some (.int .u64 kk4) ∧ w'.cell? ⟨gs4, 3, none⟩ = some (.int .u64 0)) (by kernel_rfl) ⟨e14, e24, e34, e44, e54, e64⟩ (fun hHeld => ?_)
          refine wpAnyH_take (i := 0) (v := ?_) rfl (by kernel_rfl) (by kernel_rfl) (by kernel_rfl) (fun _ _ _ h => h) (Or.inl ⟨by rfl, ?_⟩) hHeld ?_
          rotate_left
          · (intro w hSw; (try dsimp only at hSw); go_simp; try with_reducible rfl)
          try simp only [Act.put, List.setIfInBounds_toArray, List.set_cons_zero, List.set_cons_succ]
          refine wpAnyH_take (i := 1) (v := ?_) rfl (by kernel_rfl) (by kernel_rfl) (by kernel_rfl) (fun _ _ _ h => h) (Or.inl ⟨by rfl, ?_⟩) hHeld ?_
          rotate_left
          · (intro w hSw; (try dsimp only at hSw); go_simp; try with_reducible rfl)
          try simp only [Act.put, List.setIfInBounds_toArray, List.set_cons_zero, List.set_cons_succ]
          refine wpAnyH_take (i := 2) (v := ?_) rfl (by kernel_rfl) (by kernel_rfl) (by kernel_rfl) (fun _ _ _ h => h) (Or.inl ⟨by rfl, ?_⟩) hHeld ?_
          rotate_left
          · (intro w hSw; (try dsimp only at hSw); go_simp; try with_reducible rfl)
          try simp only [Act.put, List.setIfInBounds_toArray, List.set_cons_zero, List.set_cons_succ]
          refine wpAnyH_take (i := 3) (v := ?_) rfl (by kernel_rfl) (by kernel_rfl) (by kernel_rfl) (fun _ _ _ h => h) (Or.inl ⟨by rfl, ?_⟩) hHeld ?_
          rotate_left
          · (intro w hSw; (try dsimp only at hSw); go_simp; try with_reducible rfl)
          try simp only [Act.put, List.setIfInBounds_toArray, List.set_cons_zero, List.set_cons_succ]
          refine wpAnyH_take (i := 4) (v := ?_) rfl (by kernel_rfl) (by kernel_rfl) (by kernel_rfl) (fun _ _ _ h => h) (Or.inl ⟨by rfl, ?_⟩) hHeld ?_
          rotate_left
          · (intro w hSw; (try dsimp only at hSw); go_simp; try with_reducible rfl)
          try simp only [Act.put, List.setIfInBounds_toArray, List.set_cons_zero, List.set_cons_succ]
          refine wpAnyH_take (i := 5) (v := ?_) rfl (by kernel_rfl) (by kernel_rfl) (by kernel_rfl) (fun _ _ _ h => h) (Or.inl ⟨by rfl, ?_⟩) hHeld ?_
          rotate_left
          · (intro w hSw; (try dsimp only at hSw); go_simp; try with_reducible rfl)
          try simp only [Act.put, List.setIfInBounds_toArray, List.set_cons_zero, List.set_cons_succ]
          refine wpAnyH_take (i := 6) (v := ?_) rfl (by kernel_rfl) (by kernel_rfl) (by kernel_rfl) (fun _ _ _ h => h) (Or.inl ⟨by rfl, ?_⟩) hHeld ?_
          rotate_left
          · (intro w hSw; (try dsimp only at hSw); go_simp; try with_reducible rfl)
          try simp only [Act.put, List.setIfInBounds_toArray, List.set_cons_zero, List.set_cons_succ]
          refine wpAnyH_take (i := 7) (v := ?_) rfl (by kernel_rfl) (by kernel_rfl) (by kernel_rfl) (fun _ _ _ h => h) (Or.inl ⟨by rfl, ?_⟩) hHeld ?_
          rotate_left
          · (intro w hSw; (try dsimp only at hSw); go_simp; try with_reducible rfl)
          try simp only [Act.put, List.setIfInBounds_toArray, List.set_cons_zero, List.set_cons_succ]
          refine wpAnyH_take (i := 8) (v := ?_) rfl (by kernel_rfl) (by kernel_rfl) (by kernel_rfl) (fun _ _ _ h => h) (Or.inl ⟨by rfl, ?_⟩) hHeld ?_
          rotate_left
          · (intro w hSw; (try dsimp only at hSw); go_simp; try with_reducible rfl)
          try simp only [Act.put, List.setIfInBounds_toArray, List.set_cons_zero, List.set_cons_succ]
          refine wpAnyH_take (i := 9) (v := ?_) rfl (by kernel_rfl) (by kernel_rfl) (by kernel_rfl) (fun _ _ _ h => h) (Or.inl ⟨by rfl, ?_⟩) hHeld ?_
          rotate_left
          · (intro w hSw; (try dsimp only at hSw); go_simp; try with_reducible rfl)
          try simp only [Act.put, List.setIfInBounds_toArray, List.set_cons_zero, List.set_cons_succ]
          refine wpAnyH_take (i := 10) (v := ?_) rfl (by kernel_rfl) (by kernel_rfl) (by kernel_rfl) (fun _ _ _ h => h) (Or.inl ⟨by rfl, ?_⟩) hHeld ?_
          rotate_left
          · (intro w hSw; (try dsimp only at hSw); go_simp; try with_reducible rfl)
          try simp only [Act.put, List.setIfInBounds_toArray, List.set_cons_zero, List.set_cons_succ]
          refine wpAnyH_take (i := 11) (v := ?_) rfl (by kernel_rfl) (by kernel_rfl) (by kernel_rfl) (fun _ _ _ h => h) (Or.inl ⟨by rfl, ?_⟩) hHeld ?_
          rotate_left
          · (intro w hSw; (try dsimp only at hSw); go_simp; try with_reducible rfl)
          try simp only [Act.put, List.setIfInBounds_toArray, List.set_cons_zero, List.set_cons_succ]
          refine wpAnyH_ready (rs := [12]) (by kernel_rfl) (by simp) ?_
          refine AllReadyH.cons rfl (fun K hK => ?_) AllReadyH.nil
          go_simp
          refine hK.out _ _ ⟨(cell_off hlg4 (cell_off hlg4 (cell_off hlg4 (cell_off hlg4 e14)))), (cell_off hng4 (cell_off hng4 (cell_off hng4 (cell_off hng4 e24)))), (cell_off hgg4 (cell_off hgg4 (cell_off hgg4 (cell_off hgg4 e34)))), (cell_off hgg4 (cell_off hgg4 (cell_off hgg4 (cell_off hgg4 e44)))), (cell_off hgg4 (cell_off hgg4 (cell_off hgg4 (cell_off hgg4 e54)))), (cell_off hgg4 (cell_off hgg4 (cell_off hgg4 (cell_off hgg4 e64))))⟩ (fun hHeld => ?_)
          clear hK K
          try simp only [Act.put, List.setIfInBounds_toArray, List.set_cons_zero, List.set_cons_succ]
          refine wpAnyH_done (by kernel_rfl) ?_ _
          go_wp2_with fail
          go_meet
          go_light
          exact ⟨hFH4.out.fin.1, hM3.trans ⟨hFH4.out.fin.2, KC.of_eq hFH4.out.kc⟩, nb_put hpH4.out hN3 hn3 hFH4.out.c0⟩
        case rest =>
          rename World => W4
          obtain ⟨hR4, hM4, hN4⟩ := hcut
          clear hFH4 hpH4 e14 e24 e34 e44 e54 e64 e74 e84 e94 f04 f14 f24 f34 hng4 hlg4 hgg4 y0 y1 y2 y3 hM3 hb3
          obtain ⟨r4, hr4⟩ : ∃ r4 : Nd, r4 = { r2 with es := r2.es.set i kk4 } := ⟨_, rfl⟩
          rw [← hr4] at hR4 hN4
          obtain ⟨σ4, hσ4⟩ : ∃ σ4, σ4 = upd σ3 n r4 := ⟨_, rfl⟩
          rw [← hσ4] at hR4 hN4
          have hn4 : σ4 n = some r4 := by rw [hσ4, upd_same]
          have hcs4 : σ4 c2 = some t2 := by rw [hσ4, upd_other _ _ _ hcn2]; exact hcs3
          have hcc4 : σ4 c1 = some s3 := by rw [hσ4, upd_other _ _ _ hcn1]; exact hcc3
          have hσ4H := hide hσ4; have hr4H := hide hr4
          have hb4 : base ≤ W4.heap.size := Nat.le_trans hbase hM4.size
          obtain ⟨ph4, hp4⟩ := hR4
          clear hσ4 hr4
          obtain ⟨g5, cap5, hF5⟩ := delEF hp4 hcs4 (j := 0) (e1 := j) (by rw [hte2H.out]; exact hjH.out) (by omega) hb4
          have e15 := hF5.d0
          have hFH5 := hide hF5; have hpH5 := hide hp4
          clear hF5 hp4
          go_upto_region 22 with fail
          go_cut [257] from 250 to 256 (fun v w' => Rep base w' (upd σ4 c2 { t2 with es := t2.es.take 0 ++ t2.es.drop (0 + 1) }) ∧ MutC base n w w' ∧ NB B w' (upd σ4 c2 { t2 with es := t2.es.take 0 ++ t2.es.drop (0 + 1) }))
          case first =>
            go_wp2_with (first | (go_at_call 46; refine (delE g5 (j + 1) cap5 0 base _ _ (encE t2.es) _ hFH5.out.own (by simp) (by simp) (by omega) (encE_cell1 _)).mono ?_; rintro e w8 ⟨rfl, hown8, hgr8⟩; have f8 := (hFH5.out.far _ hgr8).1; have q8 := (hFH5.out.far _ hgr8).2))
            go_meet
            go_light
            have hfin := hFH5.out.fin w8 hgr8 hown8
            exact ⟨hfin.1, hM4.trans ⟨hfin.2, KC.of_eq (hFH5.out.kc n r4 hn4 w8 _ hgr8)⟩, nb_E hpH5.out hN4 hcs4 hFH5.out.d0 hgr8 (.inl rfl)⟩
          case rest =>
            rename World => W5
            obtain ⟨hR5, hM5, hN5⟩ := hcut
            clear hFH5 hpH5 e15 hM4 hb4
            obtain ⟨t5, ht5⟩ : ∃ t5 : Nd, t5 = { t2 with es := t2.es.take 0 ++ t2.es.drop (0 + 1) } := ⟨_, rfl⟩
            rw [← ht5] at hR5 hN5
            obtain ⟨σ5, hσ5⟩ : ∃ σ5, σ5 = upd σ4 c2 t5 := ⟨_, rfl⟩
            rw [← hσ5] at hR5 hN5
            have hn5 : σ5 n = some r4 := by rw [hσ5, upd_other _ _ _ (Ne.symm hcn2)]; exact hn4
            have hcs5 : σ5 c2 = some t5 := by rw [hσ5, upd_same]
            have hcc5 : σ5 c1 = some s3 := by rw [hσ5, upd_other _ _ _ (Ne.symm hne2)]; exact hcc4
            have hσ5H := hide hσ5; have ht5H := hide ht5
            have hb5 : base ≤ W5.heap.size := Nat.le_trans hbase hM5.size
            obtain ⟨ph5, hp5⟩ := hR5
            clear hσ5 ht5
            by_cases h0 : h = 0
            · have hcs0 : t5.cs = [] := by
                have := htcH.out
                rw [if_pos h0] at this
                rw [ht5H.out]
                show t2.cs = []
                rw [htc2H.out]
                exact List.eq_nil_of_length_eq_zero this
              have d1 := hp5.c1 hcs5
              rw [(hp5.nd c2 t5 hcs5).leaf hcs0] at d1
              have hl0 : (((0 : Nat) : Int) == 0) = true := by decide
              have hRH := hide hp5
              clear hp5
              go_wp2_with (first | (go_at_call 41; refine (leaf_any c2 _ 0 _ _ d1).mono ?_; rintro e wc ⟨rfl, rfl⟩))
              go_ret
              go_light
              have hsc0 : s1.cs = [] := by
                have := hscH.out
                rw [if_pos h0] at this
                rw [hscH1.out]
                exact List.eq_nil_of_length_eq_zero this
              have htl' : t2.es.length = j + 1 := by rw [hte2H.out]; exact hjH.out
              have hcs0' : t2.cs = [] := by rw [ht5H.out] at hcs0; exact hcs0
              refine right_post ⟨_, hRH.out⟩ hM5 hN5 (hkpH1.out.trans (by rw [← hroH1.out]; exact hkp2H.out)) hn2 hk2H.out (by rw [hre2H.out]; exact hreH1.out) (by rw [hro2H.out]; exact hroH1.out) hcs2 hcc2 (by rw [← hipH.out]; exact hg2H.out) hgi2H.out hm2 (by rw [htl']; omega) hs15H.out hsoH1.out (by rw [hto2H.out]; exact hroH1.out) ?_ ?_ ?_ ?_
              · rw [hn5, hr4H.out, hkk4H.out]
              · rw [hcs5, ht5H.out, hcs0']
                simp
              · rw [hcc5, hs3H.out, hcs0', hsc0, hkk3H.out]
                simp [hsc0]
              · intro x u h1 h2 h3 hx
                rw [hσ5H.out, upd_other _ _ _ h2, hσ4H.out, upd_other _ _ _ h1, hσ3H.out, upd_other _ _ _ h3]
                exact hx
            · skip
              obtain ⟨q, hq⟩ : ∃ q, q = j + 1 := ⟨_, rfl⟩
              have htcs : t5.cs.length = q + 1 := by
                have := htcH.out
                rw [if_neg h0, hjH.out] at this
                rw [ht5H.out, hq]
                show t2.cs.length = _
                rw [htc2H.out, this]
              have hscs : s3.cs.length = 16 := by
                have := hscH.out
                rw [if_neg h0, hslH.out] at this
                rw [hs3H.out]
                show s1.cs.length = _
                rw [hscH1.out, this]
              have hq0 : 0 < q := by omega
              have htcsH := hide htcs; have hscsH := hide hscs; have hqH := hide hq
              have hc12 : c1 ≠ c2 := Ne.symm hne2
              clear htcs hscs hq
              obtain ⟨kk6, hkk6⟩ : ∃ kk, t5.cs.getD 0 0 = kk := ⟨_, rfl⟩
              obtain ⟨E6, hE6⟩ : ∃ E, E = s3.cs.length := ⟨_, rfl⟩
              obtain ⟨gs6, caps6, gn6, capn6, hF6⟩ := kidF hp5 hcs5 hcc5 hc12 (k := 0) (by rw [htcsH.out]; omega) (by rw [hscsH.out]; omega) hb5 hkk6 hE6 (L := q + 1) htcsH.out.symm
              have e16 := hF6.d0; have e26 := hF6.c0; have e36 := hF6.k0
              have hq100 : q < 200 := by have := hqH.out; omega
              have e76 : (0 : Int) < (q : Int) + 1 := by omega
              have e96 : ∀ o, (W5.alloc o).cell? ⟨c1, 1, none⟩ = some (.slice (some ⟨gs6, 0, none⟩) E6 caps6) := fun o => (hF6.far _ (grown_alloc o _)).2.1
              have hE16 : E6 < 1000000 := by rw [hE6, hscsH.out]; omega
              have hFH6 := hide hF6; have hpH6 := hide hp5; have hkk6H := hide hkk6; have hE6H := hide hE6
              clear hF6 hp5 hkk6 hE6
              go_upto_region 24 with (first | (go_at_call 41; refine (leaf_no c2 _ (q + 1) _ _ (by omega) e26).mono ?_; rintro e W5 ⟨rfl, rfl⟩))
              go_cut [275] from 261 to 274 (fun v w' => Rep base w' (upd σ5 c1 { s3 with cs := s3.cs ++ [kk6] }) ∧ MutC base n w w' ∧ NB B w' (upd σ5 c1 { s3 with cs := s3.cs ++ [kk6] }))
              case first =>
                refine wp_region_held_drew (S := fun w' => w'.cell? ⟨c2, 1, none⟩ = some (.slice (some ⟨gn6, 0, none⟩) (q + 1) capn6) ∧ w'.cell? ⟨gn6, 0, none⟩ = some (.pointer (some ⟨kk6, 0, none⟩))) (by kernel_rfl) ⟨e26, e36⟩ (fun hHeld => ?_)
                refine wpAnyH_take (i := 0) (v := ?_) rfl (by kernel_rfl) (by kernel_rfl) (by kernel_rfl) (fun _ _ _ h => h) (Or.inl ⟨by rfl, ?_⟩) hHeld ?_
                rotate_left
                · (intro w hSw; (try dsimp only at hSw); go_simp; try with_reducible rfl)
                try simp only [Act.put, List.setIfInBounds_toArray, List.set_cons_zero, List.set_cons_succ]
                refine wpAnyH_take (i := 1) (v := ?_) rfl (by kernel_rfl) (by kernel_rfl) (by kernel_rfl) (fun _ _ _ h => h) (Or.inl ⟨by rfl, ?_⟩) hHeld ?_
                rotate_left
                · (intro w hSw; (try dsimp only at hSw); go_simp; try with_reducible rfl)
                try simp only [Act.put, List.setIfInBounds_toArray, List.set_cons_zero, List.set_cons_succ]
                refine wpAnyH_take (i := 2) (v := ?_) rfl (by kernel_rfl) (by kernel_rfl) (by kernel_rfl) (fun _ _ _ h => h) (Or.inl ⟨by rfl, ?_⟩) hHeld ?_
                rotate_left
                · (intro w hSw; (try dsimp only at hSw); go_simp; try with_reducible rfl)
                try simp only [Act.put, List.setIfInBounds_toArray, List.set_cons_zero, List.set_cons_succ]
                refine wpAnyH_take (i := 3) (v := ?_) rfl (by kernel_rfl) (by kernel_rfl) (by kernel_rfl) (fun _ _ _ h => h) (Or.inl ⟨by rfl, ?_⟩) hHeld ?_
                rotate_left
                · (intro w hSw; (try dsimp only at hSw); go_simp; try with_reducible rfl)
                try simp only [Act.put, List.setIfInBounds_toArray, List.set_cons_zero, List.set_cons_succ]
                refine wpAnyH_take (i := 5) (v := ?_) rfl (by kernel_rfl) (by kernel_rfl) (by kernel_rfl) (fun _ _ _ h => h) (Or.inl ⟨by rfl, ?_⟩) hHeld ?_
                rotate_left
                · (intro w hSw; (try dsimp only at hSw); go_simp; try with_reducible rfl)
                try simp only [Act.put, List.setIfInBounds_toArray, List.set_cons_zero, List.set_cons_succ]
                refine wpAnyH_take (i := 6) (v := ?_) rfl (by kernel_rfl) (by kernel_rfl) (by kernel_rfl) (fun _ _ _ h => h) (Or.inl ⟨by rfl, ?_⟩) hHeld ?_
                rotate_left
                · (intro w hSw; (try dsimp only at hSw); go_simp; try with_reducible rfl)
                try simp only [Act.put, List.setIfInBounds_toArray, List.set_cons_zero, List.set_cons_succ]
                refine wpAnyH_take (i := 7) (v := ?_) rfl (by kernel_rfl) (by kernel_rfl) (by kernel_rfl) (fun _ _ _ h => h) (Or.inl ⟨by rfl, ?_⟩) hHeld ?_
                rotate_left
                · (intro w hSw; (try dsimp only at hSw); go_simp; try with_reducible rfl)
                try simp only [Act.put, List.setIfInBounds_toArray, List.set_cons_zero, List.set_cons_succ]
                refine wpAnyH_take (i := 8) (v := ?_) rfl (by kernel_rfl) (by kernel_rfl) (by kernel_rfl) (fun _ _ _ h => h) (Or.inl ⟨by rfl, ?_⟩) hHeld ?_
                rotate_left
                · (intro w hSw; (try dsimp only at hSw); go_simp; try with_reducible rfl)
                try simp only [Act.put, List.setIfInBounds_toArray, List.set_cons_zero, List.set_cons_succ]
                refine wpAnyH_take (i := 9) (v := ?_) rfl (by kernel_rfl) (by kernel_rfl) (by kernel_rfl) (fun _ _ _ h => h) (Or.inl ⟨by rfl, ?_⟩) hHeld ?_
                rotate_left
                · (intro w hSw; (try dsimp only at hSw); go_simp; try with_reducible rfl)
                try simp only [Act.put, List.setIfInBounds_toArray, List.set_cons_zero, List.set_cons_succ]
                refine wpAnyH_take (i := 10) (v := ?_) rfl (by kernel_rfl) (by kernel_rfl) (by kernel_rfl) (fun _ _ _ h => h) (Or.inl ⟨by rfl, ?_⟩) hHeld ?_
                rotate_left
                · (intro w hSw; (try dsimp only at hSw); go_simp; try with_reducible rfl)
                try simp only [Act.put, List.setIfInBounds_toArray, List.set_cons_zero, List.set_cons_succ]
                refine wpAnyH_ready (rs := [4, 11]) (by kernel_rfl) (by simp) ?_
                refine AllReadyH.cons rfl (fun K hK => ?_) (AllReadyH.cons rfl (fun K hK => ?_) AllReadyH.nil)
                · go_simp
                  refine hK.out _ _ ⟨e26, e36⟩ (fun hHeld => ?_)
                  clear hK K
                  try simp only [Act.put, List.setIfInBounds_toArray, List.set_cons_zero, List.set_cons_succ]
                  refine wpAnyH_ready (rs := [11]) (by kernel_rfl) (by simp) ?_
                  refine AllReadyH.cons rfl (fun K hK => ?_) AllReadyH.nil
                  go_simp
                  refine hK.out _ _ (hFH6.out.far _ (grown_trans (grown_drew (grown_refl W5 _)) (grown_alloc _ _))).2.2 (fun hHeld => ?_)
                  clear hK K
                  try simp only [Act.put, List.setIfInBounds_toArray, List.set_cons_zero, List.set_cons_succ]
                  refine wpAnyH_ready (rs := [12]) (by kernel_rfl) (by simp) ?_
                  refine AllReadyH.cons rfl (fun K hK => ?_) AllReadyH.nil
                  obtain ⟨i0, hi0', hz0, hz1, hz2⟩ := info_parts infoCh
                  refine step_append_lies _ (by rfl) _ _ 62 (by rfl) base 29 i0 (.pointer none) 1 8 Try.underlying62 hi0' hz0 hz1 hz2 rfl (by omega) (.slice (some ⟨gs6, 0, none⟩) E6 caps6) E6 (encC s3.cs) (by simp [Act.eval, Act.put]) hFH6.out.o1 ⟨W5.heap.size, 0, none⟩ 1 1 [.pointer (some ⟨kk6, 0, none⟩)] (by simp [Act.eval, Act.put]) rfl (World.news_of_block hFH6.out.o2) (by rw [← encC_one]; exact encC_cell1 _) (by omega) (by unfold maxLen; omega) (by omega) (by simp; omega) (W5.heap.size + 1) (by simp) ?_
                  intro g8 cap8 w8 hown8 hgr8 hat8 hlt8
                  have hgW : W5.grownBy w8 (some gs6) := grown_trans (grown_drew (grown_alloc _ _)) hgr8
                  obtain ⟨f8, q8, qq⟩ := hFH6.out.far _ hgW
                  refine hK.out _ _ qq (fun hHeld => ?_)
                  clear hK K
                  try simp only [Act.put, List.setIfInBounds_toArray, List.set_cons_zero, List.set_cons_succ]
                  refine wpAnyH_take (i := 13) (v := ?_) rfl (by kernel_rfl) (by kernel_rfl) (by kernel_rfl) (fun _ _ _ h => h) (Or.inl ⟨by rfl, ?_⟩) hHeld ?_
                  rotate_left
                  · (intro w hSw; (try dsimp only at hSw); go_simp; try with_reducible rfl)
                  try simp only [Act.put, List.setIfInBounds_toArray, List.set_cons_zero, List.set_cons_succ]
                  refine wpAnyH_take (i := 14) (v := ?_) rfl (by kernel_rfl) (by kernel_rfl) (by kernel_rfl) (fun _ _ _ h => h) (Or.inl ⟨by rfl, ?_⟩) hHeld ?_
                  rotate_left
                  · (intro w hSw; (try dsimp only at hSw); go_simp; try with_reducible rfl)
                  try simp only [Act.put, List.setIfInBounds_toArray, List.set_cons_zero, List.set_cons_succ]
                  refine wpAnyH_ready (rs := [15]) (by kernel_rfl) (by simp) ?_
                  refine AllReadyH.cons rfl (fun K hK => ?_) AllReadyH.nil
                  go_simp
                  refine hK.out _ _ ⟨cell_off hFH6.out.xn qq.1, cell_off hFH6.out.xg qq.2⟩ (fun hHeld => ?_)
                  clear hK K
                  try simp only [Act.put, List.setIfInBounds_toArray, List.set_cons_zero, List.set_cons_succ]
                  refine wpAnyH_done (by kernel_rfl) ?_ _
                  go_wp2_with fail
                  go_meet
                  go_light
                  have hfin := hFH6.out.fin w8 g8 (E6 + 1) cap8 (s3.cs ++ [kk6]) hgW (by omega) (by rw [hE6H.out]; simp) (by rw [encC_append, encC_one]; exact hown8) (by rcases hat8 with h | h; exact .inl h; exact .inr (by rw [h]; simp))
                  exact ⟨hfin.1, hM5.trans ⟨hfin.2, KC.of_eq (hFH6.out.kc n r4 hn5 (Ne.symm hcn1) w8 _ hgW)⟩, nb_C hpH6.out hN5 hcc5 hgW (row_C hpH6.out hcc5 hFH6.out.d0) _⟩
                · go_simp
                  refine hK.out _ _ (hFH6.out.far _ (grown_trans (grown_drew (grown_refl W5 _)) (grown_alloc _ _))).2.2 (fun hHeld => ?_)
                  clear hK K
                  try simp only [Act.put, List.setIfInBounds_toArray, List.set_cons_zero, List.set_cons_succ]
                  refine wpAnyH_ready (rs := [4]) (by kernel_rfl) (by simp) ?_
                  refine AllReadyH.cons rfl (fun K hK => ?_) AllReadyH.nil
                  go_simp
                  refine hK.out _ _ (hFH6.out.far _ (grown_trans (grown_drew (grown_refl W5 _)) (grown_alloc _ _))).2.2 (fun hHeld => ?_)
                  clear hK K
                  try simp only [Act.put, List.setIfInBounds_toArray, List.set_cons_zero, List.set_cons_succ]
                  refine wpAnyH_ready (rs := [12]) (by kernel_rfl) (by simp) ?_
                  refine AllReadyH.cons rfl (fun K hK => ?_) AllReadyH.nil
                  obtain ⟨i0, hi0', hz0, hz1, hz2⟩ := info_parts infoCh
                  refine step_append_lies _ (by rfl) _ _ 62 (by rfl) base 29 i0 (.pointer none) 1 8 Try.underlying62 hi0' hz0 hz1 hz2 rfl (by omega) (.slice (some ⟨gs6, 0, none⟩) E6 caps6) E6 (encC s3.cs) (by simp [Act.eval, Act.put]) hFH6.out.o1 ⟨W5.heap.size, 0, none⟩ 1 1 [.pointer (some ⟨kk6, 0, none⟩)] (by simp [Act.eval, Act.put]) rfl (World.news_of_block hFH6.out.o2) (by rw [← encC_one]; exact encC_cell1 _) (by omega) (by unfold maxLen; omega) (by omega) (by simp; omega) (W5.heap.size + 1) (by simp) ?_
                  intro g8 cap8 w8 hown8 hgr8 hat8 hlt8
                  have hgW : W5.grownBy w8 (some gs6) := grown_trans (grown_drew (grown_alloc _ _)) hgr8
                  obtain ⟨f8, q8, qq⟩ := hFH6.out.far _ hgW
                  refine hK.out _ _ qq (fun hHeld => ?_)
                  clear hK K
                  try simp only [Act.put, List.setIfInBounds_toArray, List.set_cons_zero, List.set_cons_succ]
                  refine wpAnyH_take (i := 13) (v := ?_) rfl (by kernel_rfl) (by kernel_rfl) (by kernel_rfl) (fun _ _ _ h => h) (Or.inl ⟨by rfl, ?_⟩) hHeld ?_
                  rotate_left
                  · (intro w hSw; (try dsimp only at hSw); go_simp; try with_reducible rfl)
                  try simp only [Act.put, List.setIfInBounds_toArray, List.set_cons_zero, List.set_cons_succ]
                  refine wpAnyH_take (i := 14) (v := ?_) rfl (by kernel_rfl) (by kernel_rfl) (by kernel_rfl) (fun _ _ _ h => h) (Or.inl ⟨by rfl, ?_⟩) hHeld ?_
                  rotate_left
                  · (intro w hSw; (try dsimp only at hSw); go_simp; try with_reducible rfl)
                  try simp only [Act.put, List.setIfInBounds_toArray, List.set_cons_zero, List.set_cons_succ]
                  refine wpAnyH_ready (rs := [15]) (by kernel_rfl) (by simp) ?_
                  refine AllReadyH.cons rfl (fun K hK => ?_) AllReadyH.nil
                  go_simp
                  refine hK.out _ _ ⟨cell_off hFH6.out.xn qq.1, cell_off hFH6.out.xg qq.2⟩ (fun hHeld => ?_)
                  clear hK K
                  try simp only [Act.put, List.setIfInBounds_toArray, List.set_cons_zero, List.set_cons_succ]
                  refine wpAnyH_done (by kernel_rfl) ?_ _
                  go_wp2_with fail
                  go_meet
                  go_light
                  have hfin := hFH6.out.fin w8 g8 (E6 + 1) cap8 (s3.cs ++ [kk6]) hgW (by omega) (by rw [hE6H.out]; simp) (by rw [encC_append, encC_one]; exact hown8) (by rcases hat8 with h | h; exact .inl h; exact .inr (by rw [h]; simp))
                  exact ⟨hfin.1, hM5.trans ⟨hfin.2, KC.of_eq (hFH6.out.kc n r4 hn5 (Ne.symm hcn1) w8 _ hgW)⟩, nb_C hpH6.out hN5 hcc5 hgW (row_C hpH6.out hcc5 hFH6.out.d0) _⟩
              case rest =>
                rename World => W6
                obtain ⟨hR6, hM6, hN6⟩ := hcut
                clear hFH6 hpH6 e16 e26 e36 e76 e96 hM5 hb5
                obtain ⟨s6, hs6⟩ : ∃ s6 : Nd, s6 = { s3 with cs := s3.cs ++ [kk6] } := ⟨_, rfl⟩
                rw [← hs6] at hR6 hN6
                obtain ⟨σ6, hσ6⟩ : ∃ σ6, σ6 = upd σ5 c1 s6 := ⟨_, rfl⟩
                rw [← hσ6] at hR6 hN6
                have hn6 : σ6 n = some r4 := by rw [hσ6, upd_other _ _ _ (Ne.symm hcn1)]; exact hn5
                have hcs6 : σ6 c2 = some t5 := by rw [hσ6, upd_other _ _ _ hne2]; exact hcs5
                have hcc6 : σ6 c1 = some s6 := by rw [hσ6, upd_same]
                have hσ6H := hide hσ6; have hs6H := hide hs6
                have hb6 : base ≤ W6.heap.size := Nat.le_trans hbase hM6.size
                obtain ⟨ph6, hp6⟩ := hR6
                obtain ⟨g7, cap7, hF7⟩ := delCF hp6 hcs6 (j := 0) (e1 := q) htcsH.out (by omega) hq0 hb6
                have e17 := hF7.d0
                have hFH7 := hide hF7; have hp6H := hide hp6
                clear hF7 hp6 hσ6 hs6
                go_wp2_with (first | (go_at_call 47; refine (delC g7 (q + 1) cap7 0 base _ _ (encC t5.cs) _ hFH7.out.own (by simp) (by simp) (by omega) (encC_cell1 _)).mono ?_; rintro e w8 ⟨rfl, hown8, hgr8⟩; have f8 := (hFH7.out.far _ hgr8).1; have q8 := (hFH7.out.far _ hgr8).2))
                go_ret
                go_light
                have hfin := hFH7.out.fin w8 hgr8 hown8
                have htl' : t2.es.length = j + 1 := by rw [hte2H.out]; exact hjH.out
                have ht5c : t5.cs = t2.cs := by rw [ht5H.out]
                have ht2c : t2.cs.length = q + 1 := by rw [← ht5c]; exact htcsH.out
                have hs3c : s3.cs = s1.cs := by rw [hs3H.out]
                refine right_post hfin.1 (hM6.trans ⟨hfin.2, KC.of_eq (hFH7.out.kc n r4 hn6 (Ne.symm hcn2) w8 _ hgr8)⟩) (nb_C hp6H.out hN6 hcs6 hgr8 (row_C hp6H.out hcs6 hFH7.out.d0) _) (hkpH1.out.trans (by rw [← hroH1.out]; exact hkp2H.out)) hn2 hk2H.out (by rw [hre2H.out]; exact hreH1.out) (by rw [hro2H.out]; exact hroH1.out) hcs2 hcc2 (by rw [← hipH.out]; exact hg2H.out) hgi2H.out hm2 (by rw [htl']; omega) hs15H.out hsoH1.out (by rw [hto2H.out]; exact hroH1.out) ?_ ?_ ?_ ?_
                · rw [upd_other _ _ _ (Ne.symm hcn2), hn6, hr4H.out, hkk4H.out]
                · rw [upd_same, ht5c, ht5H.out]
                  simp
                · rw [upd_other _ _ _ (Ne.symm hne2), hcc6, hs6H.out, hs3H.out, hkk3H.out, ← hkk6H.out, ht5c]
                  have hd : t2.cs.take 1 = [t2.cs.getD 0 0] := by
                    cases hcs : t2.cs with
                    | nil => rw [hcs] at ht2c; simp at ht2c
                    | cons a b => simp
                  rw [hd]
                · intro x u h1 h2 h3 hx
                  rw [upd_other _ _ _ h2, hσ6H.out, upd_other _ _ _ h3, hσ5H.out, upd_other _ _ _ h2, hσ4H.out, upd_other _ _ _ h1, hσ3H.out, upd_other _ _ _ h3]
                  exact hx

end Go.Proofs.Qxb6001038a
