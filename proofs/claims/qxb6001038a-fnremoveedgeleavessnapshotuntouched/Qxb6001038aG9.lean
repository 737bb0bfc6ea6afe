import Derived.Test.Qxb6001038aG8
import Derived.Deep.CutRange
namespace Go.Proofs.Qxb6001038a
open Go.RowKit
set_option linter.unusedVariables false
set_option linter.unusedSimpArgs false
attribute [local go_sem ↓] Go.wp_at_zero Go.wp_at_succ

theorem grow_shift {B : Option Nat} {base : Nat} {w W1 w' : World} {σ σ1 : Nat → Option Nd} {n h lo hi i : Nat} {r r1 : Nd} {e : Ending} (hM : MutC base n w W1) (hK : Keeps σ σ1 r.own lo hi) (hre : r1.es = r.es) (hro : r1.own = r.own)
    (hg : GrowPost B base W1 σ1 n r1 h lo hi i e w') : GrowPost B base w σ n r h lo hi i e w' := by
  obtain ⟨j, r', s', σ', h1, h2, h3, h4, h5, h6, h7, h8, h9, h10, h11, h12, h13, h14, h15, h16, h17, h18⟩ := hg
  rw [hre] at h10 h11 h15 h16
  rw [hro] at h5 h7 h13
  exact ⟨j, r', s', σ', h1, h2, hM.mm.trans h3, h4, h5, h6, hK.trans h7, h8, h9, h10, h11, h12, h13, h14, h15, h16, hM.kc.trans h17, h18⟩

set_option maxHeartbeats 8000000 in
set_option maxRecDepth 100000 in
/-- grow where the child is merged. -/
theorem grow_mergea (B : Option Nat) (base n h lo hi c i l p : Nat) (ii : Int) (r s t : Nd) (σ : Nat → Option Nd) (w : World) (hii : ii = i) (hR : Rep base w σ) (hN0 : NB B w σ) (hr : σ n = some r) (hk : Kids (Sub σ h) r.cs r.es lo hi) (hre0 : 0 < r.es.length) (hre : r.es.length ≤ 31) (hiz : i = 0) (him : i < r.es.length) (hip : p = i + 1) (hl : r.cs.getD p 0 = l) (ht : σ l = some t) (hln : l ≠ n) (htl : t.es.length = 15) (htc : t.cs.length = (if h = 0 then 0 else t.es.length + 1)) 
    (hc : r.cs.getD i 0 = c) (hs : σ c = some s) (hcn : c ≠ n) (hsl : s.es.length = 15)
    (hsc : s.cs.length = (if h = 0 then 0 else s.es.length + 1)) (hbase : base ≤ w.heap.size) :
    Calls Try.prog 36 #[.pointer (some ⟨n, 0, none⟩), .int .i64 ii] w (GrowPost B base w σ n r h lo hi i) := by
  subst hii
  obtain ⟨ph, hp⟩ := hR
  have hM0 := MutC.refl base n w
  have hlen := kids_len hk
  have hsc1 : s.cs.length < 100 := by rw [hsc]; split <;> omega
  have hwm : IntKind.i64.wrap ((i : Int) + 1) = p := by rw [hip]; exact wrap_nat (i + 1) (by omega)
  have hwn : IntKind.i64.wrap (p : Int) = p := wrap_nat p (by omega)
  have hgoal := hide hk; have hscH := hide hsc
  have hlenH := hide hlen; have hiL : i < r.cs.length := by omega
  have hrc1 : r.cs.length < 100 := by omega
  have hipH := hide hip; have hlH := hide hl; have htH := hide ht; have htlH := hide htl; have htcH := hide htc
  clear hip hl ht htl htc
  have hizH := hide hiz
  clear hiz
  clear hk hsc hlen
  go_enter Try.func36, Try.ntmps36
  obtain ⟨L1, hL1⟩ : ∃ L, L = r.cs.length := ⟨_, rfl⟩
  obtain ⟨gc1, cap1, hF1⟩ := cowF hp hr hiL hc hL1
  have a11 := hF1.c1; have a21 := hF1.c2; have a31 := hF1.k0; have a41 : (i : Int) < (L1 : Int) := by have := hF1.lt; omega

  have hFH1 := hide hF1; have hpH1 := hide hp
  have hsz1 : base ≤ w.drew.heap.size := Nat.le_trans hbase hM0.size
  clear hF1 hp hL1
  go_upto_region 1 with fail
  go_cut [27] from 10 to 26 (fun v w' => ∃ c', ((c' = c ∧ s.own = r.own) ∨ σ c' = none) ∧ c' ≠ n ∧ Rep base w' (upd (upd σ c' { s with own := r.own }) n { r with cs := r.cs.set (i) c' }) ∧ MutC base n w w' ∧ NB B w' (upd (upd σ c' { s with own := r.own }) n { r with cs := r.cs.set (i) c' }))
  case first =>
    refine wp_region_held_drew (S := fun w' => w'.cell? ⟨n, 1, none⟩ = some (.slice (some ⟨gc1, 0, none⟩) L1 cap1) ∧ w'.cell? ⟨n, 2, none⟩ = some (.pointer (some ⟨r.own, 0, none⟩))) (by kernel_rfl) ⟨a11, a21⟩ (fun hHeld => ?_)
    refine wpAnyH_take (i := 0) (v := ?_) rfl (by kernel_rfl) (by kernel_rfl) (by kernel_rfl) (fun _ _ _ h => h) (Or.inl ⟨by rfl, ?_⟩) hHeld ?_
    rotate_left
    · (intro w hSw; (try dsimp only at hSw); go_simp; try with_reducible rfl)
    try simp only [Act.put, List.setIfInBounds_toArray, List.set_cons_zero, List.set_cons_succ]
    refine wpAnyH_take (i := 1) (v := ?_) rfl (by kernel_rfl) (by kernel_rfl) (by kernel_rfl) (fun _ _ _ h => h) (Or.inl ⟨by rfl, ?_⟩) hHeld ?_
    rotate_left
    · (intro w hSw; (try dsimp only at hSw); go_simp; try with_reducible rfl)
    try simp only [Act.put, List.setIfInBounds_toArray, List.set_cons_zero, List.set_cons_succ]
    refine wpAnyH_take (i := 2) (v := ?_) rfl (by kernel_rfl) (by kernel_rfl) (by kernel_rfl) (fun _ _ _ h => h) (Or.inl ⟨by rfl, ?_⟩) hHeld ?_
    rotate_left
    · (intro w hSw; (try dsimp only at hSw); go_simp; try with_reducible rfl)
    try simp only [Act.put, List.setIfInBounds_toArray, List.set_cons_zero, List.set_cons_succ]
    refine wpAnyH_take (i := 3) (v := ?_) rfl (by kernel_rfl) (by kernel_rfl) (by kernel_rfl) (fun _ _ _ h => h) (Or.inl ⟨by rfl, ?_⟩) hHeld ?_
    rotate_left
    · (intro w hSw; (try dsimp only at hSw); go_simp; try with_reducible rfl)
    try simp only [Act.put, List.setIfInBounds_toArray, List.set_cons_zero, List.set_cons_succ]
    refine wpAnyH_take (i := 4) (v := ?_) rfl (by kernel_rfl) (by kernel_rfl) (by kernel_rfl) (fun _ _ _ h => h) (Or.inl ⟨by rfl, ?_⟩) hHeld ?_
    rotate_left
    · (intro w hSw; (try dsimp only at hSw); go_simp; try with_reducible rfl)
    try simp only [Act.put, List.setIfInBounds_toArray, List.set_cons_zero, List.set_cons_succ]
    refine wpAnyH_take (i := 5) (v := ?_) rfl (by kernel_rfl) (by kernel_rfl) (by kernel_rfl) (fun _ _ _ h => h) (Or.inl ⟨by rfl, ?_⟩) hHeld ?_
    rotate_left
    · (intro w hSw; (try dsimp only at hSw); go_simp; try with_reducible rfl)
    try simp only [Act.put, List.setIfInBounds_toArray, List.set_cons_zero, List.set_cons_succ]
    refine wpAnyH_take (i := 6) (v := ?_) rfl (by kernel_rfl) (by kernel_rfl) (by kernel_rfl) (fun _ _ _ h => h) (Or.inl ⟨by rfl, ?_⟩) hHeld ?_
    rotate_left
    · (intro w hSw; (try dsimp only at hSw); go_simp; try with_reducible rfl)
    try simp only [Act.put, List.setIfInBounds_toArray, List.set_cons_zero, List.set_cons_succ]
    refine wpAnyH_take (i := 7) (v := ?_) rfl (by kernel_rfl) (by kernel_rfl) (by kernel_rfl) (fun _ _ _ h => h) (Or.inl ⟨by rfl, ?_⟩) hHeld ?_
    rotate_left
    · (intro w hSw; (try dsimp only at hSw); go_simp; try with_reducible rfl)
    try simp only [Act.put, List.setIfInBounds_toArray, List.set_cons_zero, List.set_cons_succ]
    refine wpAnyH_take (i := 8) (v := ?_) rfl (by kernel_rfl) (by kernel_rfl) (by kernel_rfl) (fun _ _ _ h => h) (Or.inl ⟨by rfl, ?_⟩) hHeld ?_
    rotate_left
    · (intro w hSw; (try dsimp only at hSw); go_simp; try with_reducible rfl)
    try simp only [Act.put, List.setIfInBounds_toArray, List.set_cons_zero, List.set_cons_succ]
    refine wpAnyH_take (i := 9) (v := ?_) rfl (by kernel_rfl) (by kernel_rfl) (by kernel_rfl) (fun _ _ _ h => h) (Or.inl ⟨by rfl, ?_⟩) hHeld ?_
    rotate_left
    · (intro w hSw; (try dsimp only at hSw); go_simp; try with_reducible rfl)
    try simp only [Act.put, List.setIfInBounds_toArray, List.set_cons_zero, List.set_cons_succ]
    refine wpAnyH_take (i := 10) (v := ?_) rfl (by kernel_rfl) (by kernel_rfl) (by kernel_rfl) (fun _ _ _ h => h) (Or.inl ⟨by rfl, ?_⟩) hHeld ?_
    rotate_left
    · (intro w hSw; (try dsimp only at hSw); go_simp; try with_reducible rfl)
    try simp only [Act.put, List.setIfInBounds_toArray, List.set_cons_zero, List.set_cons_succ]
    refine wpAnyH_take (i := 11) (v := ?_) rfl (by kernel_rfl) (by kernel_rfl) (by kernel_rfl) (fun _ _ _ h => h) (Or.inl ⟨by rfl, ?_⟩) hHeld ?_
    rotate_left
    · (intro w hSw; (try dsimp only at hSw); go_simp; try with_reducible rfl)
    try simp only [Act.put, List.setIfInBounds_toArray, List.set_cons_zero, List.set_cons_succ]
    refine wpAnyH_take (i := 12) (v := ?_) rfl (by kernel_rfl) (by kernel_rfl) (by kernel_rfl) (fun _ _ _ h => h) (Or.inl ⟨by rfl, ?_⟩) hHeld ?_
    rotate_left
    · (intro w hSw; (try dsimp only at hSw); go_simp; try with_reducible rfl)
    try simp only [Act.put, List.setIfInBounds_toArray, List.set_cons_zero, List.set_cons_succ]
    refine wpAnyH_take (i := 13) (v := ?_) rfl (by kernel_rfl) (by kernel_rfl) (by kernel_rfl) (fun _ _ _ h => h) (Or.inl ⟨by rfl, ?_⟩) hHeld ?_
    rotate_left
    · (intro w hSw; (try dsimp only at hSw); go_simp; try with_reducible rfl)
    try simp only [Act.put, List.setIfInBounds_toArray, List.set_cons_zero, List.set_cons_succ]
    refine wpAnyH_take (i := 14) (v := ?_) rfl (by kernel_rfl) (by kernel_rfl) (by kernel_rfl) (fun _ _ _ h => h) (Or.inl ⟨by rfl, ?_⟩) hHeld ?_
    rotate_left
    · (intro w hSw; (try dsimp only at hSw); go_simp; try with_reducible rfl)
    try simp only [Act.put, List.setIfInBounds_toArray, List.set_cons_zero, List.set_cons_succ]
    refine wpAnyH_ready (rs := [15]) (by kernel_rfl) (by simp) ?_
    refine AllReadyH.cons rfl (fun K hK => ?_) AllReadyH.nil
    go_simp
    refine hK.out _ _ ⟨a11, a21⟩ (fun hHeld => ?_)
    clear hK K
    try simp only [Act.put, List.setIfInBounds_toArray, List.set_cons_zero, List.set_cons_succ]
    refine wpAnyH_ready (rs := [16]) (by kernel_rfl) (by simp) ?_
    refine AllReadyH.cons rfl (fun K hK => ?_) AllReadyH.nil
    go_simp
    refine (writable2 base c r.own s σ ph _ hFH1.out.pd hs hFH1.out.no (by omega) (by omega) (by omega) hsz1).mono ?_
    rintro e w1 ⟨c', ph', rfl, hg1, hor, hp1, hph, hfr⟩
    have hg2 : w.grownBy w1 none := grown_trans (grown_drew (grown_refl w none)) hg1
    obtain ⟨q1, q2, q3, q4⟩ := hFH1.out.far w1 hg2
    go_wp2_with fail
    refine hK.out _ _ ⟨q2, q3⟩ (fun hHeld => ?_)
    clear hK K
    try simp only [Act.put, List.setIfInBounds_toArray, List.set_cons_zero, List.set_cons_succ]
    refine wpAnyH_take (i := 17) (v := ?_) rfl (by kernel_rfl) (by kernel_rfl) (by kernel_rfl) (fun _ _ _ h => h) (Or.inl ⟨by rfl, ?_⟩) hHeld ?_
    rotate_left
    · (intro w hSw; (try dsimp only at hSw); go_simp; try with_reducible rfl)
    try simp only [Act.put, List.setIfInBounds_toArray, List.set_cons_zero, List.set_cons_succ]
    refine wpAnyH_ready (rs := [18]) (by kernel_rfl) (by simp) ?_
    refine AllReadyH.cons rfl (fun K hK => ?_) AllReadyH.nil
    go_simp
    refine hK.out _ _ ⟨cell_off hFH1.out.gn q2, cell_off hFH1.out.gn q3⟩ (fun hHeld => ?_)
    clear hK K
    try simp only [Act.put, List.setIfInBounds_toArray, List.set_cons_zero, List.set_cons_succ]
    refine wpAnyH_done (by kernel_rfl) ?_ _
    go_wp2_with fail
    go_meet
    go_light
    have hcn' : c' ≠ n := by
      rcases hor with h | h
      · rw [h.1]; exact hcn
      · exact fun e => by rw [e, hr] at h; cases h
    have hcw := hFH1.out.fin w1 c' _ ph' hg2 hp1 hph hcn' hsz1
    exact ⟨c', hor, hcn', hcw.1, hM0.trans ⟨hcw.2, KC.of_eq (hFH1.out.kc w1 _ hg2)⟩, nb_cow hFH1.out hr hN0 hg2 hp1 hcn' hph hfr⟩
  case rest =>
    obtain ⟨c1, hor1, hcn1, hR1, hM1, hN1⟩ := hcut
    clear hFH1 hpH1 a11 a21 a31 a41 hsz1 
    rename World => W1
    obtain ⟨σ1, r1, s1, hσ1, hr1d, hs1d, hn1, hcs1, hk1, hkp1, hre1, hro1, hrl1, hg1, hse1, hsc1', hso1, hoth1, hf1⟩ := cow_next hr hgoal.out (by have := hlenH.out; omega) (by omega) hc hs hor1 hcn1
    rw [← hσ1] at hR1 hN1
    have hs15 : s1.es.length = 15 := by rw [hse1]; exact hsl
    have hiL1 : i < r1.cs.length := by omega
    have hre1' : r1.es.length ≤ 31 := by rw [hre1]; exact hre
    have hscs : s1.cs.length = (if h = 0 then 0 else s1.es.length + 1) := by rw [hsc1', hse1]; exact hscH.out
    have hl1 : r1.cs.getD p 0 = l := by rw [hoth1 p (by have := hipH.out; omega)]; exact hlH.out
    have ht1 : σ1 l = some t := hf1 l t hln htH.out
    have hpL : p < r1.cs.length := by have := hipH.out; have := hlenH.out; omega
    have hiE1 : i < r1.es.length := by rw [hre1]; exact him
    have hi0 : ¬ (0 : Int) < (i : Int) := by have := hizH.out; omega
    have hRH := hide hR1
    obtain ⟨ph1, hp1⟩ := hR1
    obtain ⟨gs2, caps2, hvs2, hls2, hlsm2, hgs2⟩ := ownsRow_pos (hp1.nd c1 s1 hcs1).ents (by omega)
    obtain ⟨ge2, cape2, hve2, hle2, hlem2, hge2⟩ := ownsRow_pos (hp1.nd n r1 hn1).ents (by rw [hre1]; omega)
    obtain ⟨gx2, capx2, hvx2, hlx2, hlxm2, hgx2⟩ := ownsRow_pos (hp1.nd n r1 hn1).kids (by omega)
    obtain ⟨LE2, hLE2⟩ : ∃ L, L = r1.es.length := ⟨_, rfl⟩
    obtain ⟨L2, hL2⟩ : ∃ L, L = r1.cs.length := ⟨_, rfl⟩
    have b0 := hp1.c1 hn1
    rw [hvx2, ← hL2] at b0
    have b1 := kid_cell hp1 hn1 hvx2 i hiL1
    rw [hg1] at b1
    have b2 := hp1.c0 hcs1
    rw [hvs2, hs15] at b2
    have b4 : (i : Int) < (L2 : Int) := by omega
    have b5 := hp1.c0 hn1
    rw [hve2, ← hLE2] at b5
    have b6 : (i : Int) < (LE2 : Int) := by omega
    have b6' : ((i : Int) == (LE2 : Int)) = false := by simp; omega
    have b6n : ¬ i = LE2 := by omega
    have b3 := kid_cell hp1 hn1 hvx2 p hpL
    rw [hl1] at b3
    obtain ⟨gt2, capt2, hvt2, hlt2, hltm2, hgt2⟩ := ownsRow_pos (hp1.nd l t ht1).ents (by rw [htlH.out]; omega)
    have b10 := hp1.c0 ht1
    rw [hvt2, htlH.out] at b10
    have b11 : (p : Int) < (L2 : Int) := by omega
    clear hvt2 hlt2 hltm2 hgt2
    have hl1H := hide hl1
    clear hl1
    have hN1H := hide hN1; have hkH := hide hk1; have hkpH := hide hkp1; have hreH := hide hre1; have hroH := hide hro1; have hg1H := hide hg1; have hs15H := hide hs15; have hscsH := hide hscs
    have hb1 : base ≤ W1.heap.size := Nat.le_trans hbase hM1.size
    clear hN1 hvs2 hls2 hlsm2 hgs2 hve2 hle2 hlem2 hge2 hvx2 hlx2 hlxm2 hgx2 hLE2 hL2 hp1 hσ1 hr1d hs1d hk1 hkp1 hoth1 hf1 hse1 hsc1' hre1 hc hrl1 hro1 hso1 hor1 hg1 hs15 hscs hsl
    go_wp2_with (first | (go_at_call 48; refine (merge_any B base n h lo hi c1 l _ i p r1 s1 t σ1 W1 (by simp) hipH.out hRH.out hN1H.out hn1 hkH.out hiE1 hre1' hg1H.out hcs1 hcn1 hl1H.out ht1 hln hs15H.out htlH.out hscsH.out htcH.out hb1).mono ?_; rintro e w8 ⟨rfl, hpost⟩))
    go_ret
    go_light
    exact grow_shift hM1 hkpH.out hreH.out hroH.out (hpost i (.inl rfl))

set_option maxHeartbeats 8000000 in
set_option maxRecDepth 100000 in
/-- grow where the child is merged. -/
theorem grow_mergeb (B : Option Nat) (base n h lo hi c i l p m ll : Nat) (ii : Int) (r s t u : Nd) (σ : Nat → Option Nd) (w : World) (hii : ii = i) (hR : Rep base w σ) (hN0 : NB B w σ) (hr : σ n = some r) (hk : Kids (Sub σ h) r.cs r.es lo hi) (hre0 : 0 < r.es.length) (hre : r.es.length ≤ 31) (hml : i = m + 1) (hll : r.cs.getD m 0 = ll) (hu : σ ll = some u) (hlln : ll ≠ n) (hul : u.es.length = 15) (him : i < r.es.length) (hip : p = i + 1) (hl : r.cs.getD p 0 = l) (ht : σ l = some t) (hln : l ≠ n) (htl : t.es.length = 15) (htc : t.cs.length = (if h = 0 then 0 else t.es.length + 1)) 
    (hc : r.cs.getD i 0 = c) (hs : σ c = some s) (hcn : c ≠ n) (hsl : s.es.length = 15)
    (hsc : s.cs.length = (if h = 0 then 0 else s.es.length + 1)) (hbase : base ≤ w.heap.size) :
    Calls Try.prog 36 #[.pointer (some ⟨n, 0, none⟩), .int .i64 ii] w (GrowPost B base w σ n r h lo hi i) := by
  subst hii
  obtain ⟨ph, hp⟩ := hR
  have hM0 := MutC.refl base n w
  have hlen := kids_len hk
  have hsc1 : s.cs.length < 100 := by rw [hsc]; split <;> omega
  have hwm : IntKind.i64.wrap ((i : Int) + 1) = p := by rw [hip]; exact wrap_nat (i + 1) (by omega)
  have hwn : IntKind.i64.wrap (p : Int) = p := wrap_nat p (by omega)
  have hwl : IntKind.i64.wrap ((i : Int) - 1) = m := by rw [hml, show (((m + 1 : Nat) : Int) - 1) = m by omega]; exact wrap_nat m (by omega)
  have hwk : IntKind.i64.wrap (m : Int) = m := wrap_nat m (by omega)
  have hgoal := hide hk; have hscH := hide hsc
  have hlenH := hide hlen; have hiL : i < r.cs.length := by omega
  have hrc1 : r.cs.length < 100 := by omega
  have hipH := hide hip; have hlH := hide hl; have htH := hide ht; have htlH := hide htl; have htcH := hide htc
  clear hip hl ht htl htc
  have hmlH := hide hml; have hllH := hide hll; have huH := hide hu; have hulH := hide hul
  clear hml hll hu hul
  clear hk hsc hlen
  go_enter Try.func36, Try.ntmps36
  obtain ⟨L1, hL1⟩ : ∃ L, L = r.cs.length := ⟨_, rfl⟩
  obtain ⟨gc1, cap1, hF1⟩ := cowF hp hr hiL hc hL1
  have a11 := hF1.c1; have a21 := hF1.c2; have a31 := hF1.k0; have a41 : (i : Int) < (L1 : Int) := by have := hF1.lt; omega

  have hFH1 := hide hF1; have hpH1 := hide hp
  have hsz1 : base ≤ w.drew.heap.size := Nat.le_trans hbase hM0.size
  clear hF1 hp hL1
  go_upto_region 1 with fail
  go_cut [27] from 10 to 26 (fun v w' => ∃ c', ((c' = c ∧ s.own = r.own) ∨ σ c' = none) ∧ c' ≠ n ∧ Rep base w' (upd (upd σ c' { s with own := r.own }) n { r with cs := r.cs.set (i) c' }) ∧ MutC base n w w' ∧ NB B w' (upd (upd σ c' { s with own := r.own }) n { r with cs := r.cs.set (i) c' }))
  case first =>
    refine wp_region_held_drew (S := fun w' => w'.cell? ⟨n, 1, none⟩ = some (.slice (some ⟨gc1, 0, none⟩) L1 cap1) ∧ w'.cell? ⟨n, 2, none⟩ = some (.pointer (some ⟨r.own, 0, none⟩))) (by kernel_rfl) ⟨a11, a21⟩ (fun hHeld => ?_)
    refine wpAnyH_take (i := 0) (v := ?_) rfl (by kernel_rfl) (by kernel_rfl) (by kernel_rfl) (fun _ _ _ h => h) (Or.inl ⟨by rfl, ?_⟩) hHeld ?_
    rotate_left
    · (intro w hSw; (try dsimp only at hSw); go_simp; try with_reducible rfl)
    try simp only [Act.put, List.setIfInBounds_toArray, List.set_cons_zero, List.set_cons_succ]
    refine wpAnyH_take (i := 1) (v := ?_) rfl (by kernel_rfl) (by kernel_rfl) (by kernel_rfl) (fun _ _ _ h => h) (Or.inl ⟨by rfl, ?_⟩) hHeld ?_
    rotate_left
    · (intro w hSw; (try dsimp only at hSw); go_simp; try with_reducible rfl)
    try simp only [Act.put, List.setIfInBounds_toArray, List.set_cons_zero, List.set_cons_succ]
    refine wpAnyH_take (i := 2) (v := ?_) rfl (by kernel_rfl) (by kernel_rfl) (by kernel_rfl) (fun _ _ _ h => h) (Or.inl ⟨by rfl, ?_⟩) hHeld ?_
    rotate_left
    · (intro w hSw; (try dsimp only at hSw); go_simp; try with_reducible rfl)
    try simp only [Act.put, List.setIfInBounds_toArray, List.set_cons_zero, List.set_cons_succ]
    refine wpAnyH_take (i := 3) (v := ?_) rfl (by kernel_rfl) (by kernel_rfl) (by kernel_rfl) (fun _ _ _ h => h) (Or.inl ⟨by rfl, ?_⟩) hHeld ?_
    rotate_left
    · (intro w hSw; (try dsimp only at hSw); go_simp; try with_reducible rfl)
    try simp only [Act.put, List.setIfInBounds_toArray, List.set_cons_zero, List.set_cons_succ]
    refine wpAnyH_take (i := 4) (v := ?_) rfl (by kernel_rfl) (by kernel_rfl) (by kernel_rfl) (fun _ _ _ h => h) (Or.inl ⟨by rfl, ?_⟩) hHeld ?_
    rotate_left
    · (intro w hSw; (try dsimp only at hSw); go_simp; try with_reducible rfl)
    try simp only [Act.put, List.setIfInBounds_toArray, List.set_cons_zero, List.set_cons_succ]
    refine wpAnyH_take (i := 5) (v := ?_) rfl (by kernel_rfl) (by kernel_rfl) (by kernel_rfl) (fun _ _ _ h => h) (Or.inl ⟨by rfl, ?_⟩) hHeld ?_
    rotate_left
    · (intro w hSw; (try dsimp only at hSw); go_simp; try with_reducible rfl)
    try simp only [Act.put, List.setIfInBounds_toArray, List.set_cons_zero, List.set_cons_succ]
    refine wpAnyH_take (i := 6) (v := ?_) rfl (by kernel_rfl) (by kernel_rfl) (by kernel_rfl) (fun _ _ _ h => h) (Or.inl ⟨by rfl, ?_⟩) hHeld ?_
    rotate_left
    · (intro w hSw; (try dsimp only at hSw); go_simp; try with_reducible rfl)
    try simp only [Act.put, List.setIfInBounds_toArray, List.set_cons_zero, List.set_cons_succ]
    refine wpAnyH_take (i := 7) (v := ?_) rfl (by kernel_rfl) (by kernel_rfl) (by kernel_rfl) (fun _ _ _ h => h) (Or.inl ⟨by rfl, ?_⟩) hHeld ?_
    rotate_left
    · (intro w hSw; (try dsimp only at hSw); go_simp; try with_reducible rfl)
    try simp only [Act.put, List.setIfInBounds_toArray, List.set_cons_zero, List.set_cons_succ]
    refine wpAnyH_take (i := 8) (v := ?_) rfl (by kernel_rfl) (by kernel_rfl) (by kernel_rfl) (fun _ _ _ h => h) (Or.inl ⟨by rfl, ?_⟩) hHeld ?_
    rotate_left
    · (intro w hSw; (try dsimp only at hSw); go_simp; try with_reducible rfl)
    try simp only [Act.put, List.setIfInBounds_toArray, List.set_cons_zero, List.set_cons_succ]
    refine wpAnyH_take (i := 9) (v := ?_) rfl (by kernel_rfl) (by kernel_rfl) (by kernel_rfl) (fun _ _ _ h => h) (Or.inl ⟨by rfl, ?_⟩) hHeld ?_
    rotate_left
    · (intro w hSw; (try dsimp only at hSw); go_simp; try with_reducible rfl)
    try simp only [Act.put, List.setIfInBounds_toArray, List.set_cons_zero, List.set_cons_succ]
    refine wpAnyH_take (i := 10) (v := ?_) rfl (by kernel_rfl) (by kernel_rfl) (by kernel_rfl) (fun _ _ _ h => h) (Or.inl ⟨by rfl, ?_⟩) hHeld ?_
    rotate_left
    · (intro w hSw; (try dsimp only at hSw); go_simp; try with_reducible rfl)
    try simp only [Act.put, List.setIfInBounds_toArray, List.set_cons_zero, List.set_cons_succ]
    refine wpAnyH_take (i := 11) (v := ?_) rfl (by kernel_rfl) (by kernel_rfl) (by kernel_rfl) (fun _ _ _ h => h) (Or.inl ⟨by rfl, ?_⟩) hHeld ?_
    rotate_left
    · (intro w hSw; (try dsimp only at hSw); go_simp; try with_reducible rfl)
    try simp only [Act.put, List.setIfInBounds_toArray, List.set_cons_zero, List.set_cons_succ]
    refine wpAnyH_take (i := 12) (v := ?_) rfl (by kernel_rfl) (by kernel_rfl) (by kernel_rfl) (fun _ _ _ h => h) (Or.inl ⟨by rfl, ?_⟩) hHeld ?_
    rotate_left
    · (intro w hSw; (try dsimp only at hSw); go_simp; try with_reducible rfl)
    try simp only [Act.put, List.setIfInBounds_toArray, List.set_cons_zero, List.set_cons_succ]
    refine wpAnyH_take (i := 13) (v := ?_) rfl (by kernel_rfl) (by kernel_rfl) (by kernel_rfl) (fun _ _ _ h => h) (Or.inl ⟨by rfl, ?_⟩) hHeld ?_
    rotate_left
    · (intro w hSw; (try dsimp only at hSw); go_simp; try with_reducible rfl)
    try simp only [Act.put, List.setIfInBounds_toArray, List.set_cons_zero, List.set_cons_succ]
    refine wpAnyH_take (i := 14) (v := ?_) rfl (by kernel_rfl) (by kernel_rfl) (by kernel_rfl) (fun _ _ _ h => h) (Or.inl ⟨by rfl, ?_⟩) hHeld ?_
    rotate_left
    · (intro w hSw; (try dsimp only at hSw); go_simp; try with_reducible rfl)
    try simp only [Act.put, List.setIfInBounds_toArray, List.set_cons_zero, List.set_cons_succ]
    refine wpAnyH_ready (rs := [15]) (by kernel_rfl) (by simp) ?_
    refine AllReadyH.cons rfl (fun K hK => ?_) AllReadyH.nil
    go_simp
    refine hK.out _ _ ⟨a11, a21⟩ (fun hHeld => ?_)
    clear hK K
    try simp only [Act.put, List.setIfInBounds_toArray, List.set_cons_zero, List.set_cons_succ]
    refine wpAnyH_ready (rs := [16]) (by kernel_rfl) (by simp) ?_
    refine AllReadyH.cons rfl (fun K hK => ?_) AllReadyH.nil
    go_simp
    refine (writable2 base c r.own s σ ph _ hFH1.out.pd hs hFH1.out.no (by omega) (by omega) (by omega) hsz1).mono ?_
    rintro e w1 ⟨c', ph', rfl, hg1, hor, hp1, hph, hfr⟩
    have hg2 : w.grownBy w1 none := grown_trans (grown_drew (grown_refl w none)) hg1
    obtain ⟨q1, q2, q3, q4⟩ := hFH1.out.far w1 hg2
    go_wp2_with fail
    refine hK.out _ _ ⟨q2, q3⟩ (fun hHeld => ?_)
    clear hK K
    try simp only [Act.put, List.setIfInBounds_toArray, List.set_cons_zero, List.set_cons_succ]
    refine wpAnyH_take (i := 17) (v := ?_) rfl (by kernel_rfl) (by kernel_rfl) (by kernel_rfl) (fun _ _ _ h => h) (Or.inl ⟨by rfl, ?_⟩) hHeld ?_
    rotate_left
    · (intro w hSw; (try dsimp only at hSw); go_simp; try with_reducible rfl)
    try simp only [Act.put, List.setIfInBounds_toArray, List.set_cons_zero, List.set_cons_succ]
    refine wpAnyH_ready (rs := [18]) (by kernel_rfl) (by simp) ?_
    refine AllReadyH.cons rfl (fun K hK => ?_) AllReadyH.nil
    go_simp
    refine hK.out _ _ ⟨cell_off hFH1.out.gn q2, cell_off hFH1.out.gn q3⟩ (fun hHeld => ?_)
    clear hK K
    try simp only [Act.put, List.setIfInBounds_toArray, List.set_cons_zero, List.set_cons_succ]
    refine wpAnyH_done (by kernel_rfl) ?_ _
    go_wp2_with fail
    go_meet
    go_light
    have hcn' : c' ≠ n := by
      rcases hor with h | h
      · rw [h.1]; exact hcn
      · exact fun e => by rw [e, hr] at h; cases h
    have hcw := hFH1.out.fin w1 c' _ ph' hg2 hp1 hph hcn' hsz1
    exact ⟨c', hor, hcn', hcw.1, hM0.trans ⟨hcw.2, KC.of_eq (hFH1.out.kc w1 _ hg2)⟩, nb_cow hFH1.out hr hN0 hg2 hp1 hcn' hph hfr⟩
  case rest =>
    obtain ⟨c1, hor1, hcn1, hR1, hM1, hN1⟩ := hcut
    clear hFH1 hpH1 a11 a21 a31 a41 hsz1 
    rename World => W1
    obtain ⟨σ1, r1, s1, hσ1, hr1d, hs1d, hn1, hcs1, hk1, hkp1, hre1, hro1, hrl1, hg1, hse1, hsc1', hso1, hoth1, hf1⟩ := cow_next hr hgoal.out (by have := hlenH.out; omega) (by omega) hc hs hor1 hcn1
    rw [← hσ1] at hR1 hN1
    have hs15 : s1.es.length = 15 := by rw [hse1]; exact hsl
    have hiL1 : i < r1.cs.length := by omega
    have hre1' : r1.es.length ≤ 31 := by rw [hre1]; exact hre
    have hscs : s1.cs.length = (if h = 0 then 0 else s1.es.length + 1) := by rw [hsc1', hse1]; exact hscH.out
    have hl1 : r1.cs.getD p 0 = l := by rw [hoth1 p (by have := hipH.out; omega)]; exact hlH.out
    have ht1 : σ1 l = some t := hf1 l t hln htH.out
    have hpL : p < r1.cs.length := by have := hipH.out; have := hlenH.out; omega
    have hiE1 : i < r1.es.length := by rw [hre1]; exact him
    have hi0 : (0 : Int) < (i : Int) := by have := hmlH.out; omega
    have hll1 : r1.cs.getD m 0 = ll := by rw [hoth1 m (by have := hmlH.out; omega)]; exact hllH.out
    have hu1 : σ1 ll = some u := hf1 ll u hlln huH.out
    have hmL1 : m < r1.cs.length := by have := hmlH.out; omega
    have hRH := hide hR1
    obtain ⟨ph1, hp1⟩ := hR1
    obtain ⟨gs2, caps2, hvs2, hls2, hlsm2, hgs2⟩ := ownsRow_pos (hp1.nd c1 s1 hcs1).ents (by omega)
    obtain ⟨ge2, cape2, hve2, hle2, hlem2, hge2⟩ := ownsRow_pos (hp1.nd n r1 hn1).ents (by rw [hre1]; omega)
    obtain ⟨gx2, capx2, hvx2, hlx2, hlxm2, hgx2⟩ := ownsRow_pos (hp1.nd n r1 hn1).kids (by omega)
    obtain ⟨LE2, hLE2⟩ : ∃ L, L = r1.es.length := ⟨_, rfl⟩
    obtain ⟨L2, hL2⟩ : ∃ L, L = r1.cs.length := ⟨_, rfl⟩
    have b0 := hp1.c1 hn1
    rw [hvx2, ← hL2] at b0
    have b1 := kid_cell hp1 hn1 hvx2 i hiL1
    rw [hg1] at b1
    have b2 := hp1.c0 hcs1
    rw [hvs2, hs15] at b2
    have b4 : (i : Int) < (L2 : Int) := by omega
    have b5 := hp1.c0 hn1
    rw [hve2, ← hLE2] at b5
    have b6 : (i : Int) < (LE2 : Int) := by omega
    have b6' : ((i : Int) == (LE2 : Int)) = false := by simp; omega
    have b6n : ¬ i = LE2 := by omega
    have b3 := kid_cell hp1 hn1 hvx2 p hpL
    rw [hl1] at b3
    obtain ⟨gt2, capt2, hvt2, hlt2, hltm2, hgt2⟩ := ownsRow_pos (hp1.nd l t ht1).ents (by rw [htlH.out]; omega)
    have b10 := hp1.c0 ht1
    rw [hvt2, htlH.out] at b10
    have b11 : (p : Int) < (L2 : Int) := by omega
    clear hvt2 hlt2 hltm2 hgt2
    obtain ⟨gu2, capu2, hvu2, hlu2, hlum2, hgu2⟩ := ownsRow_pos (hp1.nd ll u hu1).ents (by have := hulH.out; omega)
    have b7 := kid_cell hp1 hn1 hvx2 m hmL1
    rw [hll1] at b7
    have b8 := hp1.c0 hu1
    rw [hvu2, hulH.out] at b8
    have b9 : (m : Int) < (L2 : Int) := by omega
    clear hvu2 hlu2 hlum2 hgu2
    have hl1H := hide hl1
    clear hl1
    have hN1H := hide hN1; have hkH := hide hk1; have hkpH := hide hkp1; have hreH := hide hre1; have hroH := hide hro1; have hg1H := hide hg1; have hs15H := hide hs15; have hscsH := hide hscs
    have hb1 : base ≤ W1.heap.size := Nat.le_trans hbase hM1.size
    clear hN1 hvs2 hls2 hlsm2 hgs2 hve2 hle2 hlem2 hge2 hvx2 hlx2 hlxm2 hgx2 hLE2 hL2 hp1 hσ1 hr1d hs1d hk1 hkp1 hoth1 hf1 hse1 hsc1' hre1 hc hrl1 hro1 hso1 hor1 hg1 hs15 hscs hsl
    go_wp2_with (first | (go_at_call 48; refine (merge_any B base n h lo hi c1 l _ i p r1 s1 t σ1 W1 (by simp) hipH.out hRH.out hN1H.out hn1 hkH.out hiE1 hre1' hg1H.out hcs1 hcn1 hl1H.out ht1 hln hs15H.out htlH.out hscsH.out htcH.out hb1).mono ?_; rintro e w8 ⟨rfl, hpost⟩))
    go_ret
    go_light
    exact grow_shift hM1 hkpH.out hreH.out hroH.out (hpost i (.inl rfl))

set_option maxHeartbeats 8000000 in
set_option maxRecDepth 100000 in
/-- grow where the child is merged. -/
theorem grow_mergec (B : Option Nat) (base n h lo hi c i m ll : Nat) (ii : Int) (r s u : Nd) (σ : Nat → Option Nd) (w : World) (hii : ii = i) (hR : Rep base w σ) (hN0 : NB B w σ) (hr : σ n = some r) (hk : Kids (Sub σ h) r.cs r.es lo hi) (hre0 : 0 < r.es.length) (hre : r.es.length ≤ 31) (hml : i = m + 1) (hll : r.cs.getD m 0 = ll) (hu : σ ll = some u) (hlln : ll ≠ n) (hul : u.es.length = 15) (huc : u.cs.length = (if h = 0 then 0 else u.es.length + 1)) (hie : i = r.es.length) 
    (hc : r.cs.getD i 0 = c) (hs : σ c = some s) (hcn : c ≠ n) (hsl : s.es.length = 15)
    (hsc : s.cs.length = (if h = 0 then 0 else s.es.length + 1)) (hbase : base ≤ w.heap.size) :
    Calls Try.prog 36 #[.pointer (some ⟨n, 0, none⟩), .int .i64 ii] w (GrowPost B base w σ n r h lo hi i) := by
  subst hii
  obtain ⟨ph, hp⟩ := hR
  have hM0 := MutC.refl base n w
  have hlen := kids_len hk
  have hsc1 : s.cs.length < 100 := by rw [hsc]; split <;> omega
  have hwl : IntKind.i64.wrap ((i : Int) - 1) = m := by rw [hml, show (((m + 1 : Nat) : Int) - 1) = m by omega]; exact wrap_nat m (by omega)
  have hwk : IntKind.i64.wrap (m : Int) = m := wrap_nat m (by omega)
  have hgoal := hide hk; have hscH := hide hsc
  have hlenH := hide hlen; have hiL : i < r.cs.length := by omega
  have hrc1 : r.cs.length < 100 := by omega
  have hmlH := hide hml; have hllH := hide hll; have huH := hide hu; have hulH := hide hul
  clear hml hll hu hul
  have hieH := hide hie; have hucH := hide huc
  clear hie huc
  clear hk hsc hlen
  go_enter Try.func36, Try.ntmps36
  obtain ⟨L1, hL1⟩ : ∃ L, L = r.cs.length := ⟨_, rfl⟩
  obtain ⟨gc1, cap1, hF1⟩ := cowF hp hr hiL hc hL1
  have a11 := hF1.c1; have a21 := hF1.c2; have a31 := hF1.k0; have a41 : (i : Int) < (L1 : Int) := by have := hF1.lt; omega

  have hFH1 := hide hF1; have hpH1 := hide hp
  have hsz1 : base ≤ w.drew.heap.size := Nat.le_trans hbase hM0.size
  clear hF1 hp hL1
  go_upto_region 1 with fail
  go_cut [27] from 10 to 26 (fun v w' => ∃ c', ((c' = c ∧ s.own = r.own) ∨ σ c' = none) ∧ c' ≠ n ∧ Rep base w' (upd (upd σ c' { s with own := r.own }) n { r with cs := r.cs.set (i) c' }) ∧ MutC base n w w' ∧ NB B w' (upd (upd σ c' { s with own := r.own }) n { r with cs := r.cs.set (i) c' }))
  case first =>
    refine wp_region_held_drew (S := fun w' => w'.cell? ⟨n, 1, none⟩ = some (.slice (some ⟨gc1, 0, none⟩) L1 cap1) ∧ w'.cell? ⟨n, 2, none⟩ = some (.pointer (some ⟨r.own, 0, none⟩))) (by kernel_rfl) ⟨a11, a21⟩ (fun hHeld => ?_)
    refine wpAnyH_take (i := 0) (v := ?_) rfl (by kernel_rfl) (by kernel_rfl) (by kernel_rfl) (fun _ _ _ h => h) (Or.inl ⟨by rfl, ?_⟩) hHeld ?_
    rotate_left
    · (intro w hSw; (try dsimp only at hSw); go_simp; try with_reducible rfl)
    try simp only [Act.put, List.setIfInBounds_toArray, List.set_cons_zero, List.set_cons_succ]
    refine wpAnyH_take (i := 1) (v := ?_) rfl (by kernel_rfl) (by kernel_rfl) (by kernel_rfl) (fun _ _ _ h => h) (Or.inl ⟨by rfl, ?_⟩) hHeld ?_
    rotate_left
    · (intro w hSw; (try dsimp only at hSw); go_simp; try with_reducible rfl)
    try simp only [Act.put, List.setIfInBounds_toArray, List.set_cons_zero, List.set_cons_succ]
    refine wpAnyH_take (i := 2) (v := ?_) rfl (by kernel_rfl) (by kernel_rfl) (by kernel_rfl) (fun _ _ _ h => h) (Or.inl ⟨by rfl, ?_⟩) hHeld ?_
    rotate_left
    · (intro w hSw; (try dsimp only at hSw); go_simp; try with_reducible rfl)
    try simp only [Act.put, List.setIfInBounds_toArray, List.set_cons_zero, List.set_cons_succ]
    refine wpAnyH_take (i := 3) (v := ?_) rfl (by kernel_rfl) (by kernel_rfl) (by kernel_rfl) (fun _ _ _ h => h) (Or.inl ⟨by rfl, ?_⟩) hHeld ?_
    rotate_left
    · (intro w hSw; (try dsimp only at hSw); go_simp; try with_reducible rfl)
    try simp only [Act.put, List.setIfInBounds_toArray, List.set_cons_zero, List.set_cons_succ]
    refine wpAnyH_take (i := 4) (v := ?_) rfl (by kernel_rfl) (by kernel_rfl) (by kernel_rfl) (fun _ _ _ h => h) (Or.inl ⟨by rfl, ?_⟩) hHeld ?_
    rotate_left
    · (intro w hSw; (try dsimp only at hSw); go_simp; try with_reducible rfl)
    try simp only [Act.put, List.setIfInBounds_toArray, List.set_cons_zero, List.set_cons_succ]
    refine wpAnyH_take (i := 5) (v := ?_) rfl (by kernel_rfl) (by kernel_rfl) (by kernel_rfl) (fun _ _ _ h => h) (Or.inl ⟨by rfl, ?_⟩) hHeld ?_
    rotate_left
    · (intro w hSw; (try dsimp only at hSw); go_simp; try with_reducible rfl)
    try simp only [Act.put, List.setIfInBounds_toArray, List.set_cons_zero, List.set_cons_succ]
    refine wpAnyH_take (i := 6) (v := ?_) rfl (by kernel_rfl) (by kernel_rfl) (by kernel_rfl) (fun _ _ _ h => h) (Or.inl ⟨by rfl, ?_⟩) hHeld ?_
    rotate_left
    · (intro w hSw; (try dsimp only at hSw); go_simp; try with_reducible rfl)
    try simp only [Act.put, List.setIfInBounds_toArray, List.set_cons_zero, List.set_cons_succ]
    refine wpAnyH_take (i := 7) (v := ?_) rfl (by kernel_rfl) (by kernel_rfl) (by kernel_rfl) (fun _ _ _ h => h) (Or.inl ⟨by rfl, ?_⟩) hHeld ?_
    rotate_left
    · (intro w hSw; (try dsimp only at hSw); go_simp; try with_reducible rfl)
    try simp only [Act.put, List.setIfInBounds_toArray, List.set_cons_zero, List.set_cons_succ]
    refine wpAnyH_take (i := 8) (v := ?_) rfl (by kernel_rfl) (by kernel_rfl) (by kernel_rfl) (fun _ _ _ h => h) (Or.inl ⟨by rfl, ?_⟩) hHeld ?_
    rotate_left
    · (intro w hSw; (try dsimp only at hSw); go_simp; try with_reducible rfl)
    try simp only [Act.put, List.setIfInBounds_toArray, List.set_cons_zero, List.set_cons_succ]
    refine wpAnyH_take (i := 9) (v := ?_) rfl (by kernel_rfl) (by kernel_rfl) (by kernel_rfl) (fun _ _ _ h => h) (Or.inl ⟨by rfl, ?_⟩) hHeld ?_
    rotate_left
    · (intro w hSw; (try dsimp only at hSw); go_simp; try with_reducible rfl)
    try simp only [Act.put, List.setIfInBounds_toArray, List.set_cons_zero, List.set_cons_succ]
    refine wpAnyH_take (i := 10) (v := ?_) rfl (by kernel_rfl) (by kernel_rfl) (by kernel_rfl) (fun _ _ _ h => h) (Or.inl ⟨by rfl, ?_⟩) hHeld ?_
    rotate_left
    · (intro w hSw; (try dsimp only at hSw); go_simp; try with_reducible rfl)
    try simp only [Act.put, List.setIfInBounds_toArray, List.set_cons_zero, List.set_cons_succ]
    refine wpAnyH_take (i := 11) (v := ?_) rfl (by kernel_rfl) (by kernel_rfl) (by kernel_rfl) (fun _ _ _ h => h) (Or.inl ⟨by rfl, ?_⟩) hHeld ?_
    rotate_left
    · (intro w hSw; (try dsimp only at hSw); go_simp; try with_reducible rfl)
    try simp only [Act.put, List.setIfInBounds_toArray, List.set_cons_zero, List.set_cons_succ]
    refine wpAnyH_take (i := 12) (v := ?_) rfl (by kernel_rfl) (by kernel_rfl) (by kernel_rfl) (fun _ _ _ h => h) (Or.inl ⟨by rfl, ?_⟩) hHeld ?_
    rotate_left
    · (intro w hSw; (try dsimp only at hSw); go_simp; try with_reducible rfl)
    try simp only [Act.put, List.setIfInBounds_toArray, List.set_cons_zero, List.set_cons_succ]
    refine wpAnyH_take (i := 13) (v := ?_) rfl (by kernel_rfl) (by kernel_rfl) (by kernel_rfl) (fun _ _ _ h => h) (Or.inl ⟨by rfl, ?_⟩) hHeld ?_
    rotate_left
    · (intro w hSw; (try dsimp only at hSw); go_simp; try with_reducible rfl)
    try simp only [Act.put, List.setIfInBounds_toArray, List.set_cons_zero, List.set_cons_succ]
    refine wpAnyH_take (i := 14) (v := ?_) rfl (by kernel_rfl) (by kernel_rfl) (by kernel_rfl) (fun _ _ _ h => h) (Or.inl ⟨by rfl, ?_⟩) hHeld ?_
    rotate_left
    · (intro w hSw; (try dsimp only at hSw); go_simp; try with_reducible rfl)
    try simp only [Act.put, List.setIfInBounds_toArray, List.set_cons_zero, List.set_cons_succ]
    refine wpAnyH_ready (rs := [15]) (by kernel_rfl) (by simp) ?_
    refine AllReadyH.cons rfl (fun K hK => ?_) AllReadyH.nil
    go_simp
    refine hK.out _ _ ⟨a11, a21⟩ (fun hHeld => ?_)
    clear hK K
    try simp only [Act.put, List.setIfInBounds_toArray, List.set_cons_zero, List.set_cons_succ]
    refine wpAnyH_ready (rs := [16]) (by kernel_rfl) (by simp) ?_
    refine AllReadyH.cons rfl (fun K hK => ?_) AllReadyH.nil
    go_simp
    refine (writable2 base c r.own s σ ph _ hFH1.out.pd hs hFH1.out.no (by omega) (by omega) (by omega) hsz1).mono ?_
    rintro e w1 ⟨c', ph', rfl, hg1, hor, hp1, hph, hfr⟩
    have hg2 : w.grownBy w1 none := grown_trans (grown_drew (grown_refl w none)) hg1
    obtain ⟨q1, q2, q3, q4⟩ := hFH1.out.far w1 hg2
    go_wp2_with fail
    refine hK.out _ _ ⟨q2, q3⟩ (fun hHeld => ?_)
    clear hK K
    try simp only [Act.put, List.setIfInBounds_toArray, List.set_cons_zero, List.set_cons_succ]
    refine wpAnyH_take (i := 17) (v := ?_) rfl (by kernel_rfl) (by kernel_rfl) (by kernel_rfl) (fun _ _ _ h => h) (Or.inl ⟨by rfl, ?_⟩) hHeld ?_
    rotate_left
    · (intro w hSw; (try dsimp only at hSw); go_simp; try with_reducible rfl)
    try simp only [Act.put, List.setIfInBounds_toArray, List.set_cons_zero, List.set_cons_succ]
    refine wpAnyH_ready (rs := [18]) (by kernel_rfl) (by simp) ?_
    refine AllReadyH.cons rfl (fun K hK => ?_) AllReadyH.nil
    go_simp
    refine hK.out _ _ ⟨cell_off hFH1.out.gn q2, cell_off hFH1.out.gn q3⟩ (fun hHeld => ?_)
    clear hK K
    try simp only [Act.put, List.setIfInBounds_toArray, List.set_cons_zero, List.set_cons_succ]
    refine wpAnyH_done (by kernel_rfl) ?_ _
    go_wp2_with fail
    go_meet
    go_light
    have hcn' : c' ≠ n := by
      rcases hor with h | h
      · rw [h.1]; exact hcn
      · exact fun e => by rw [e, hr] at h; cases h
    have hcw := hFH1.out.fin w1 c' _ ph' hg2 hp1 hph hcn' hsz1
    exact ⟨c', hor, hcn', hcw.1, hM0.trans ⟨hcw.2, KC.of_eq (hFH1.out.kc w1 _ hg2)⟩, nb_cow hFH1.out hr hN0 hg2 hp1 hcn' hph hfr⟩
  case rest =>
    obtain ⟨c1, hor1, hcn1, hR1, hM1, hN1⟩ := hcut
    clear hFH1 hpH1 a11 a21 a31 a41 hsz1 
    rename World => W1
    obtain ⟨σ1, r1, s1, hσ1, hr1d, hs1d, hn1, hcs1, hk1, hkp1, hre1, hro1, hrl1, hg1, hse1, hsc1', hso1, hoth1, hf1⟩ := cow_next hr hgoal.out (by have := hlenH.out; omega) (by omega) hc hs hor1 hcn1
    rw [← hσ1] at hR1 hN1
    have hs15 : s1.es.length = 15 := by rw [hse1]; exact hsl
    have hiL1 : i < r1.cs.length := by omega
    have hre1' : r1.es.length ≤ 31 := by rw [hre1]; exact hre
    have hscs : s1.cs.length = (if h = 0 then 0 else s1.es.length + 1) := by rw [hsc1', hse1]; exact hscH.out
    have hiE1 : r1.es.length = i := by rw [hre1]; exact hieH.out.symm
    have hi0 : (0 : Int) < (i : Int) := by have := hmlH.out; omega
    have hll1 : r1.cs.getD m 0 = ll := by rw [hoth1 m (by have := hmlH.out; omega)]; exact hllH.out
    have hu1 : σ1 ll = some u := hf1 ll u hlln huH.out
    have hmL1 : m < r1.cs.length := by have := hmlH.out; omega
    have hRH := hide hR1
    obtain ⟨ph1, hp1⟩ := hR1
    obtain ⟨gs2, caps2, hvs2, hls2, hlsm2, hgs2⟩ := ownsRow_pos (hp1.nd c1 s1 hcs1).ents (by omega)
    obtain ⟨ge2, cape2, hve2, hle2, hlem2, hge2⟩ := ownsRow_pos (hp1.nd n r1 hn1).ents (by rw [hre1]; omega)
    obtain ⟨gx2, capx2, hvx2, hlx2, hlxm2, hgx2⟩ := ownsRow_pos (hp1.nd n r1 hn1).kids (by omega)
    obtain ⟨LE2, hLE2⟩ : ∃ L, L = r1.es.length := ⟨_, rfl⟩
    obtain ⟨L2, hL2⟩ : ∃ L, L = r1.cs.length := ⟨_, rfl⟩
    have b0 := hp1.c1 hn1
    rw [hvx2, ← hL2] at b0
    have b1 := kid_cell hp1 hn1 hvx2 i hiL1
    rw [hg1] at b1
    have b2 := hp1.c0 hcs1
    rw [hvs2, hs15] at b2
    have b4 : (i : Int) < (L2 : Int) := by omega
    have b5 := hp1.c0 hn1
    rw [hve2, ← hLE2] at b5
    have b6 : ¬ (i : Int) < (LE2 : Int) := by omega
    have b6e : (LE2 : Int) = (i : Int) := by omega
    rw [show LE2 = i by omega] at b5
    obtain ⟨gu2, capu2, hvu2, hlu2, hlum2, hgu2⟩ := ownsRow_pos (hp1.nd ll u hu1).ents (by have := hulH.out; omega)
    have b7 := kid_cell hp1 hn1 hvx2 m hmL1
    rw [hll1] at b7
    have b8 := hp1.c0 hu1
    rw [hvu2, hulH.out] at b8
    have b9 : (m : Int) < (L2 : Int) := by omega
    clear hvu2 hlu2 hlum2 hgu2
    have hll1H := hide hll1; have hiE1H := hide hiE1
    clear hll1 hiE1 hLE2 b6e
    have hN1H := hide hN1; have hkH := hide hk1; have hkpH := hide hkp1; have hreH := hide hre1; have hroH := hide hro1; have hg1H := hide hg1; have hs15H := hide hs15; have hscsH := hide hscs
    have hb1 : base ≤ W1.heap.size := Nat.le_trans hbase hM1.size
    clear hN1 hvs2 hls2 hlsm2 hgs2 hve2 hle2 hlem2 hge2 hvx2 hlx2 hlxm2 hgx2  hL2 hp1 hσ1 hr1d hs1d hk1 hkp1 hoth1 hf1 hse1 hsc1' hre1 hc hrl1 hro1 hso1 hor1 hg1 hs15 hscs hsl
    go_wp2_with (first | (go_at_call 48; refine (merge_any B base n h lo hi ll c1 _ m i r1 u s1 σ1 W1 (by simp) hmlH.out hRH.out hN1H.out hn1 hkH.out (by have := hmlH.out; have := hiE1H.out; omega) hre1' hll1H.out hu1 hlln hg1H.out hcs1 hcn1 hulH.out hs15H.out hucH.out hscsH.out hb1).mono ?_; rintro e w8 ⟨rfl, hpost⟩))
    go_ret
    go_light
    exact grow_shift hM1 hkpH.out hreH.out hroH.out (hpost i (.inr hmlH.out))


end Go.Proofs.Qxb6001038a
