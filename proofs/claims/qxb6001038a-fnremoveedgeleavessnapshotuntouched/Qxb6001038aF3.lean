import Derived.Test.Qxb6001038aH2
namespace Go.Proofs.Qxb6001038a
open Go.RowKit
set_option linter.unusedVariables false
set_option linter.unusedSimpArgs false
attribute [local go_sem ↓] Go.wp_at_zero Go.wp_at_succ

theorem Rep.heap {base : Nat} {w w' : World} {σ : Nat → Option Nd} (h : Rep base w σ) (e : w'.heap = w.heap) : Rep base w' σ := h.keep fun b c t fz hc _ => by rw [e]; exact hc
theorem Rep.grown {base : Nat} {w w' : World} {σ : Nat → Option Nd} (h : Rep base w σ) (hg : w.grownBy w' none) : Rep base w' σ := h.keep fun b c t fz hc _ => by rw [hg.block b (lt_of_heap hc) (by simp)]; exact hc
theorem below_grown {base : Nat} {w w' : World} (hg : w.grownBy w' none) (hb : base ≤ w.heap.size) : Below base w w' := (Mut.grown hg hb (fun k hk => by cases hk)).below

set_option maxHeartbeats 4000000 in
set_option maxRecDepth 100000 in
theorem fnGrowSnap_main (a0 : Option Addr) (len0 cap0 : Nat) (z0 : List Int) (h i ent : Nat) (w : World) (w0 : IsRow .u8 w a0 len0 cap0 z0) (hl : len0 ≤ 65536) (hh1 : 1 ≤ h) (hh2 : h ≤ 2) (he1 : 1 ≤ ent) (he : ent ≤ 31) (hi : i ≤ ent) :
    Calls Try.prog 5 #[.slice a0 len0 cap0, .int .i64 h, .int .i64 ent, .int .i64 i] w fun e w' => e = .returned (.bool true) ∧ Below w.heap.size w w' := by
  have hlen := row_len w0
  have hd1 : decide (len0 ≤ 1048576) = true := by simp; omega
  have hb8 := bytes19 a0 len0 cap0 h ent i w hlen
  rw [hd1] at hb8
  have hcl := cloneU8_any a0 len0 cap0 z0 w w0 (by omega)
  obtain ⟨h', rfl⟩ : ∃ h', h = h' + 1 := ⟨h - 1, by omega⟩
  have hb8H := hide hb8; have hclH := hide hcl
  clear hb8 hcl w0
  have t1 : ¬ ((65536 : Int) < (len0 : Int)) := by omega
  have t2 : ¬ (((h' : Int) + 1) < 1) := by omega
  have t3 : ¬ (2 < ((h' : Int) + 1)) := by omega
  have t4 : ¬ ((ent : Int) < 1) := by omega
  have t5 : ¬ (31 < (ent : Int)) := by omega
  have t6 : ¬ ((i : Int) < 0) := by omega
  have t7 : ¬ ((ent : Int) < (i : Int)) := by omega
  go_enter Try.func5, Try.ntmps5
  go_wp2_with (first
    | (go_at_call 19; refine hb8H.out.mono ?_; rintro e w' ⟨rfl, rfl⟩)
    | (go_at_call 9; refine hclH.out.mono ?_; rintro e W1 ⟨p, n, c, rfl, hB1, hS1, hn1, hsz1⟩)
    | (go_at_call 10; refine (newOwner_any _).mono ?_; rintro e W2 ⟨rfl, rfl⟩))
  have hbW : w'.heap.size ≤ W1.heap.size := hsz1
  obtain ⟨sw1, sw2, sw3, sw4⟩ := start_world w'.heap.size W1 p n c hS1 hbW
  have hBW : Below w'.heap.size w' ((W1.alloc (.cells #[.int .u8 0] 47)).alloc (.cells #[.slice p n c, .int .i64 0, .int .i64 0] 28)) := (hB1.alloc hbW _).alloc (by simp; omega) _
  have hszW : ((W1.alloc (.cells #[.int .u8 0] 47)).alloc (.cells #[.slice p n c, .int .i64 0, .int .i64 0] 28)).heap.size = W1.heap.size + 2 := by simp
  generalize (W1.alloc (.cells #[.int .u8 0] 47)).alloc (.cells #[.slice p n c, .int .i64 0, .int .i64 0] 28) = W at sw1 sw2 sw3 sw4 hBW hszW ⊢
  have hnB : nB (h' + 1) ≤ 32767 ∧ cB (h' + 1) ≤ 1056 := by
    rcases (show h' = 0 ∨ h' = 1 by omega) with rfl | rfl <;> decide
  refine (buildC (h' + 1) (by omega) w'.heap.size (W1.heap.size + 1) W1.heap.size ent 0 0 n c p _ _ _ _ W (by omega) rfl sw1 (by omega) (by omega) sw2 sw3 (by omega) sw4 (by omega) (by omega) (by omega)).mono ?_
  rintro e W4 ⟨x, σ, pos, nx, rfl, hR, hBt, hpos, hnx, hMB, hold, hown, es, cs, hx, hBx, hel, hk, hfull⟩
  clear sw1 sw2 sw3 sw4 hS1 hpos
  have hkk : Kids (Sub σ h') cs es 0 nx := kids_mono (sub_le _ h') (fun c a b _ _ => sub_mono h' c a b (fun y r hy => (nw_some.1 hy).2)) hk
  have hcl := kids_len hkk
  have c2 := hBt.c2
  have hb4 : w'.heap.size ≤ W4.heap.size := Nat.le_trans (by omega) hMB.below.size
  have hWW : W.heap.size ≤ W4.heap.size := hMB.below.size
  have hown' : ∀ y r, σ y = some r → r.own = W1.heap.size := fun y r hy => by
    by_cases hlt : y < W.heap.size
    · rw [hold y hlt] at hy; cases hy
    · exact hown y r (by omega) hy
  obtain ⟨r, hrd⟩ : ∃ r : Nd, r = ⟨es, cs, W1.heap.size⟩ := ⟨_, rfl⟩
  rw [← hrd] at hx
  have hre : r.es = es := by rw [hrd]
  have hrc : r.cs = cs := by rw [hrd]
  have hro : r.own = W1.heap.size := by rw [hrd]
  have hB : Body σ (h' + 1) r 0 nx := by rw [hrd]; exact hkk
  have hel31 : r.es.length ≤ 31 := by rw [hre]; omega
  have hsB : sB (h' + 1) ≤ 2114 := by
    rcases (show h' = 0 ∨ h' = 1 by omega) with rfl | rfl <;> decide
  obtain ⟨S, hS⟩ : ∃ S, S = shp σ (h' + 1) x := ⟨_, rfl⟩
  have hSl : S.length ≤ 2114 := by have := shp_len (h' + 1) x 0 nx r hx hB hel31; rw [hS]; omega
  have hS2 : 2 ≤ S.length := by rw [hS]; unfold shp; rw [hx]; simp
  have hsh := shape_any (h' + 1) w'.heap.size x 0 0 nx 0 r (.slice none 0 0) [] σ W4 rfl hR hx hB hel31 (by omega) hb4 (World.ownsRow_nil _ _ _ _) (by simp; omega)
  rw [← hS] at hsh
  have hnxl : nx < 90000 := by omega
  have hshH := hide hsh; have hRH := hide hR; have hBH := hide hB; have hxH := hide hx; have hx0 := hide hx; have hBWH := hide hBW; have hMBH := hide hMB; have hownH := hide hown'; have hSH := hide hS; have hkkH := hide hkk; have hrdH := hide hrd; have hreH := hide hre; have hrcH := hide hrc; have hroH := hide hro; have helH := hide hel; have hclH2 := hide hcl
  clear hsh hR hB hx hBW hMB hown hown' hS hkk hrd hre hrc hro hel hcl hold hk hfull hBt hB1 hBx
  go_upto_region 17 with (first | (go_at_call 20; refine hshH.out.mono ?_; rintro e W5 ⟨v5, rfl, hS5⟩))
  obtain ⟨g5, cap5, hv5, hl5, hm5, hg5⟩ := ownsRow_pos hS5.own (by simp; omega)
  simp only [List.nil_append] at hv5 hl5
  subst hv5
  have hO5 := hS5.own
  simp only [List.nil_append] at hO5
  have hG5 : W4.grownBy W5 none := hS5.grow
  have hR5 : Rep w'.heap.size W5 σ := hRH.out.grown hG5
  obtain ⟨_, ct5, ht5⟩ := ownsRow_tag hO5 (b := g5) rfl
  have hb5 : w'.heap.size ≤ W5.heap.size := Nat.le_trans hb4 hG5.size
  have hBel5 : Below w'.heap.size w' W5 := hBWH.out.trans (hMBH.out.below.trans (below_grown hG5 hb4))
  have ho1 : W1.heap.size < W5.heap.size := by have := hG5.size; omega
  have hO5H := hide hO5; have hR5H := hide hR5; have ht5H := hide ht5; have hBel5H := hide hBel5
  clear hO5 hR5 ht5 hBel5 hS5 hshH hRH hBWH hMBH hG5
  obtain ⟨L, hL⟩ : ∃ L, L = S.length := ⟨_, rfl⟩
  rw [← hL] at hl5 ⊢
  have hLH := hide hL
  clear hL
  go_upto_region 18 with (first | (go_at_call 10; refine (newOwner_any _).mono ?_; rintro e W6 ⟨rfl, rfl⟩))
  obtain ⟨W6, hW6⟩ : ∃ W6, W6 = W5.alloc (.cells #[.int .u8 0] 47) := ⟨_, rfl⟩
  rw [← hW6]
  have hG6 : W5.grownBy W6 none := by rw [hW6]; exact grown_alloc _ _
  have hR6 : Rep w'.heap.size W6 σ := hR5H.out.grown hG6
  have ho6 : W6.heap[W5.heap.size]? = some (.cells #[.int .u8 0] 47 (0, 0)) := by rw [hW6]; exact heap_alloc_new W5 _
  have hb6 : w'.heap.size ≤ W6.heap.size := Nat.le_trans hb5 hG6.size
  have hel := helH.out
  have hcl := hclH2.out
  have hwr := writable21 w'.heap.size x W5.heap.size r σ W6 hR6 hxH.out ho6 (by rw [hreH.out]; omega) (by rw [hreH.out]; omega) (by rw [hrcH.out]; omega) hb6
  have hwrH := hide hwr; have hG6H := hide hG6
  clear hwr hG6 hR6 ho6 hW6 hel hcl
  go_upto_region 19 with (first | (go_at_call 21; refine hwrH.out.mono ?_; rintro e W7 ⟨n', rfl, hG7, hor, hR7⟩))
  have hn' : σ n' = none := by
    rcases hor with ⟨_, h2⟩ | h2
    · exfalso; rw [hroH.out] at h2; omega
    · exact h2
  obtain ⟨r7, hr7⟩ : ∃ r7 : Nd, r7 = { r with own := W5.heap.size } := ⟨_, rfl⟩
  obtain ⟨σ7, hσ7⟩ : ∃ σ7, σ7 = upd σ n' r7 := ⟨_, rfl⟩
  rw [← hr7, ← hσ7] at hR7
  have hn7 : σ7 n' = some r7 := by rw [hσ7, upd_same]
  have hsub7 : ∀ y t, σ y = some t → σ7 y = some t := fun y t hy => by
    rw [hσ7, upd_other _ _ _ (fun e => by rw [e, hn'] at hy; cases hy)]
    exact hy
  have hk7 : Kids (Sub σ7 h') r7.cs r7.es 0 nx := by
    rw [hr7]
    dsimp only
    rw [hrcH.out, hreH.out]
    exact kids_mono (sub_le _ h') (fun c a b _ _ => sub_mono h' c a b hsub7) hkkH.out
  have hr7l : r7.es.length = ent := by rw [hr7]; show r.es.length = ent; rw [hreH.out]; exact helH.out
  have hb7 : w'.heap.size ≤ W7.heap.size := Nat.le_trans hb6 hG7.size
  have hgr := grow18 none w'.heap.size n' h' 0 nx i (i : Int) r7 σ7 W7 rfl hR7 (NB.none _ _) hn7 hk7 (by omega) (by omega) (by omega) hb7
  have hgrH := hide hgr; have hsub7H := hide hsub7; have hG7H := hide hG7; have hr7H := hide hr7; have hn'0 := hide hn'
  clear hgr hsub7 hG7 hr7 hσ7 hn7 hk7 hor hwrH hR7 hn' hr7l
  go_upto_region 20 with (first | (go_at_call 18; refine hgrH.out.mono ?_; rintro e W8 ⟨j, r', s', σ', rfl, g1, g2, g3, g4, g5', g6, g7, g8, g9, g10, g11, g12, g13, g14, g15, g16, g17⟩))
  have hsub8 : ∀ y t, σ y = some t → σ' y = some t := fun y t hy => g6 y t (hsub7H.out y t hy) (.inl (by rw [hownH.out y t hy, hr7H.out]; show W1.heap.size ≠ W5.heap.size; omega))
  have hx8 : σ' x = some r := hsub8 x r hxH.out
  have hB8 : Body σ' (h' + 1) r 0 nx := by
    have := kids_mono (T' := Sub σ' h') (sub_le _ h') (fun c a b _ _ => sub_mono h' c a b hsub8) hkkH.out
    show Kids (Sub σ' h') r.cs r.es 0 nx
    rw [hrcH.out, hreH.out]
    exact this
  have hB8' : Body σ' (h' + 1) r' 0 nx := g5'
  have hS8 : shp σ' (h' + 1) x = S := (shp_mono hsub8 (h' + 1) x 0 nx r hxH.out hBH.out).trans hSH.out.symm
  have hb8 : w'.heap.size ≤ W8.heap.size := Nat.le_trans hb7 g2.size
  have hr'l : r'.es.length ≤ 31 := by
    have h1 : r7.es.length = ent := by rw [hr7H.out]; show r.es.length = ent; rw [hreH.out]; exact helH.out
    omega
  have hsh := shape_any (h' + 1) w'.heap.size x 0 0 nx 0 r (.slice none 0 0) [] σ' W8 rfl g1 hx8 hB8 hel31 (by omega) hb8 (World.ownsRow_nil _ _ _ _) (by simp; omega)
  rw [hS8] at hsh
  have ht8 : W8.heap[g5]? = some (.cells ct5 3 (0, 0)) := by
    have h5 := ht5H.out
    have h6 : (W6.heap)[g5]? = some (.cells ct5 3 (0, 0)) := by rw [hG6H.out.block g5 (lt_of_heap h5) (by simp)]; exact h5
    have h7 : (W7.heap)[g5]? = some (.cells ct5 3 (0, 0)) := by rw [hG7H.out.block g5 (lt_of_heap h6) (by simp)]; exact h6
    exact g2.oth g5 ct5 3 (0, 0) h7 (by decide) (by decide) (by decide)
  have hBel8 : Below w'.heap.size w' W8 := hBel5H.out.trans ((below_grown hG6H.out hb5).trans ((below_grown hG7H.out hb6).trans g2.below))
  have hshH := hide hsh; have g1H := hide g1; have g3H := hide g3; have hx8H := hide hx8; have hB8H := hide hB8; have hB8'H := hide hB8'; have ht8H := hide ht8; have hBel8H := hide hBel8
  clear hsub8 hx8 hB8 hB8' hS8 hsh ht8 hBel8 g1 g2 g3 g4 g5' g6 g7 g8 g9 g10 g11 g12 g13 g14 g15 g16 g17 hBel5H hG6H hG7H hr7H hsub7H hxH hBH hownH hSH hkkH hrdH hreH hrcH hroH helH hclH2 hgrH hR5H hclH hb8H c2
  go_upto_region 21 with (first | (go_at_call 20; refine hshH.out.mono ?_; rintro e W9 ⟨v9, rfl, hS9⟩))
  obtain ⟨g9, cap9, hv9, hl9, hm9, hg9⟩ := ownsRow_pos hS9.own (by simp; omega)
  simp only [List.nil_append] at hv9
  subst hv9
  have hO9 := hS9.own
  simp only [List.nil_append] at hO9
  have hG9 : W8.grownBy W9 none := hS9.grow
  have hR9 : Rep w'.heap.size W9 σ' := g1H.out.grown hG9
  have hL := hLH.out
  have hO5 := hO5H.out
  rw [← hL] at hO5 hO9 ⊢
  have ht9 : W9.heap[g5]? = W5.heap[g5]? := by rw [hG9.block g5 (lt_of_heap ht8H.out) (by simp), ht8H.out, ht5H.out]
  have hsm := same_any w'.heap.size g5 g9 L cap5 cap9 (fun k => (S.getD k 0 : Nat)) W9 (fun k hk => (World.cell?_of_block (a := ⟨g5, k, none⟩) ht9).trans (row_cells hO5 k hk)) (row_cells hO9) (by omega)
  have hb9 : w'.heap.size ≤ W9.heap.size := Nat.le_trans hb8 hG9.size
  have hBel9 : Below w'.heap.size w' W9 := hBel8H.out.trans (below_grown hG9 hb8)
  have hchk1 : Hid (∀ W10, W10.heap = W9.heap → Calls Try.prog 13 #[.pointer (some ⟨x, 0, none⟩), .int .i64 0, .int .i64 (nx : Int), .int .i64 ((h' : Int) + 1)] W10 fun e wz => e = .returned (.bool true) ∧ MutW w'.heap.size W10 wz) := fun W10 hW =>
    check_any w'.heap.size x 0 nx (h' + 1) 0 (nx : Int) ((h' : Int) + 1) r σ' W10 rfl rfl (by omega) (hR9.heap hW) hx8H.out hB8H.out hel31 (by omega) (by omega) (by omega) (by omega) (by rw [hW]; exact hb9)
  have hchk2 : Hid (∀ W10 W11, W10.heap = W9.heap → MutW w'.heap.size W10 W11 → Calls Try.prog 13 #[.pointer (some ⟨n', 0, none⟩), .int .i64 0, .int .i64 (nx : Int), .int .i64 ((h' : Int) + 1)] W11 fun e wz => e = .returned (.bool true) ∧ MutW w'.heap.size W11 wz) := fun W10 W11 hW hM =>
    check_any w'.heap.size n' 0 nx (h' + 1) 0 (nx : Int) ((h' : Int) + 1) r' σ' W11 rfl rfl (by omega) ((hR9.heap hW).mutW hM) g3H.out hB8'H.out hr'l (by omega) (by omega) (by omega) (by omega) (by have := hM.below.size; rw [hW] at this; omega)
  have hfin : Hid (∀ W10 W11 W12, Below W9.heap.size W9 W10 → MutW w'.heap.size W10 W11 → MutW w'.heap.size W11 W12 → Below w'.heap.size w' W12) := fun W10 W11 W12 h1 h2 h3 => hBel9.trans ((h1.mono hb9).trans (h2.below.trans h3.below))
  have hnx : x ≠ n' := fun e => by
    have h1 := hn'0.out
    rw [← e] at h1
    have h2 := hx0.out
    rw [h1] at h2
    cases h2
  have hsmH := hide hsm
  clear hsm hBel9 ht9 hO5 hO9 hL hR9 hG9 hS9 hg9 hm9 hl9 hshH g1H g3H hx8H hB8H hB8'H ht8H hBel8H hO5H ht5H hLH
  go_wp2_with (first
    | (go_at_call 22; refine hsmH.out.mono ?_; rintro e W10 ⟨rfl, hBl10, hW10⟩)
    | (go_at_call_of 13 (Value.pointer (some ⟨x, 0, none⟩)); refine (hchk1.out W10 hW10).mono ?_; rintro e W11 ⟨rfl, hM11⟩)
    | (go_at_call 13; refine (hchk2.out W10 _ hW10 hM11).mono ?_; rintro e W12 ⟨rfl, hM12⟩))
  go_ret
  exact ⟨rfl, hfin.out W10 W11 W12 hBl10 hM11 hM12⟩

end Go.Proofs.Qxb6001038a
