import Derived.Test.Qxb6001038aF4
import Derived.Test.Qxb6001038aF3
namespace Go.Proofs.Qxb6001038a
open Go.RowKit
set_option linter.unusedVariables false
set_option linter.unusedSimpArgs false
attribute [local go_sem ↓] Go.wp_at_zero Go.wp_at_succ

theorem bytes26 (a b : Option Addr) (len cap lenb capb : Nat) (x y : Int) (w : World) (hl : len ≤ 9223372036854775807) (hlb : lenb ≤ 9223372036854775807) :
    Calls Try.prog 26 #[.slice a len cap, .int .i64 x, .int .i64 y, .slice b lenb capb] w fun e w' => e = .returned (.bool (decide (len + lenb ≤ 1048576))) ∧ w' = w := by
  by_cases h : len ≤ 1048576
  · have h1 : ¬ ((1048576 : Int) < (len : Int)) := by omega
    by_cases h2 : lenb ≤ 1048576
    · have h3 : ¬ ((1048576 : Int) < (lenb : Int)) := by omega
      have hw : IntKind.i64.wrap ((len : Int) + (lenb : Int)) = (len : Int) + (lenb : Int) := by rw [IntKind.wrap_i64]; omega
      by_cases h4 : len + lenb ≤ 1048576
      · have h5 : ¬ ((1048576 : Int) < (len : Int) + (lenb : Int)) := by omega
        go_enter Try.func26, Try.ntmps26
        go_wp2
        go_ret
        first | exact ⟨rfl, rfl⟩ | exact ⟨by rw [decide_eq_true h4]; rfl, rfl⟩
      · have h5 : ((1048576 : Int) < (len : Int) + (lenb : Int)) := by omega
        go_enter Try.func26, Try.ntmps26
        go_wp2
        go_ret
        first | exact ⟨rfl, rfl⟩ | exact ⟨by rw [decide_eq_false h4]; rfl, rfl⟩
    · have h3 : ((1048576 : Int) < (lenb : Int)) := by omega
      go_enter Try.func26, Try.ntmps26
      go_wp2
      go_ret
      first | exact ⟨rfl, rfl⟩ | exact ⟨by rw [decide_eq_false (by omega)]; rfl, rfl⟩
  · have h1 : ((1048576 : Int) < (len : Int)) := by omega
    go_enter Try.func26, Try.ntmps26
    go_wp2
    go_ret
    first | exact ⟨rfl, rfl⟩ | exact ⟨by rw [decide_eq_false (by omega)]; rfl, rfl⟩

theorem body_mono {σ σ' : Nat → Option Nd} (hf : ∀ y t, σ y = some t → σ' y = some t) {h lo hi : Nat} {r : Nd} (hb : Body σ h r lo hi) : Body σ' h r lo hi := by
  cases h with
  | zero => exact hb
  | succ h => exact kids_mono (sub_le σ h) (fun c a b _ _ => sub_mono h c a b hf) hb
theorem body_own {σ : Nat → Option Nd} {h lo hi o : Nat} {r : Nd} (hb : Body σ h r lo hi) : Body σ h { r with own := o } lo hi := by
  cases h with
  | zero => exact hb
  | succ h => exact hb
theorem shp_two {σ : Nat → Option Nd} {h x : Nat} {r : Nd} (hx : σ x = some r) : 2 ≤ (shp σ h x).length := by
  cases h with
  | zero => unfold shp; rw [hx]; simp
  | succ h => unfold shp; rw [hx]; simp

set_option maxHeartbeats 4000000 in
set_option maxRecDepth 100000 in
theorem fnEdgeSnap_main (a0 b0 : Option Addr) (len0 cap0 lenb capb : Nat) (z0 : List Int) (h ent : Nat) (w : World) (w0 : IsRow .u8 w a0 len0 cap0 z0) (wb : IsBools w b0 lenb capb) (hl : len0 ≤ 65536) (hlb : lenb ≤ 65536) (hh2 : h ≤ 2) (he1 : 16 ≤ ent) (he : ent ≤ 31) :
    Calls Try.prog 7 #[.slice a0 len0 cap0, .int .i64 h, .int .i64 ent, .slice b0 lenb capb] w fun e w' => e = .returned (.bool true) ∧ Below w.heap.size w w' := by
  have hlen := row_len w0
  have hlen' := bools_len wb
  have hb8 := bytes26 a0 b0 len0 cap0 lenb capb h ent w hlen hlen'
  rw [decide_eq_true (by omega)] at hb8
  have hcl := cloneU8_any a0 len0 cap0 z0 w w0 (by omega)
  have hcb : ∀ W1, Below w.heap.size w W1 → _ := fun W1 hB => cloneBo_any b0 lenb capb W1 (wb.keep hB) (by omega)
  have hb8H := hide hb8; have hclH := hide hcl; have hcbH := hide hcb
  clear hb8 hcl w0 wb hcb
  have t1 : ¬ ((65536 : Int) < (len0 : Int)) := by omega
  have t1b : ¬ ((65536 : Int) < (lenb : Int)) := by omega
  have t2 : ¬ ((h : Int) < 0) := by omega
  have t3 : ¬ (2 < (h : Int)) := by omega
  have t4 : ¬ ((ent : Int) < 16) := by omega
  have t5 : ¬ (31 < (ent : Int)) := by omega
  go_enter Try.func7, Try.ntmps7
  go_wp2_with (first
    | (go_at_call 26; refine hb8H.out.mono ?_; rintro e w' ⟨rfl, rfl⟩)
    | (go_at_call 9; refine hclH.out.mono ?_; rintro e W0 ⟨p, n, c, rfl, hB1, hS1, hn1, hsz1⟩)
    | (go_at_call 24; refine (hcbH.out W0 hB1).mono ?_; rintro e W1 ⟨pb, cb, rfl, hBb, hrow⟩)
    | (go_at_call 10; refine (newOwner_any _).mono ?_; rintro e W2 ⟨rfl, rfl⟩))
  have hsz0 : W0.heap.size ≤ W1.heap.size := hBb.size
  have hS1' : Siz W1 p n := hS1.keep (fun b c hc => by rw [hBb.block b (lt_of_heap hc)]; exact hc)
  have hbW : w'.heap.size ≤ W1.heap.size := Nat.le_trans hsz1 hsz0
  obtain ⟨sw1, sw2, sw3, sw4⟩ := start_world w'.heap.size W1 p n c hS1' hbW
  have hB1' : Below w'.heap.size w' W1 := hB1.trans (hBb.mono hsz1)
  have hBW : Below w'.heap.size w' ((W1.alloc (.cells #[.int .u8 0] 47)).alloc (.cells #[.slice p n c, .int .i64 0, .int .i64 0] 28)) := (hB1'.alloc hbW _).alloc (by simp; omega) _
  have hszW : ((W1.alloc (.cells #[.int .u8 0] 47)).alloc (.cells #[.slice p n c, .int .i64 0, .int .i64 0] 28)).heap.size = W1.heap.size + 2 := by simp
  have hrowW : 0 < lenb → ∃ gb cc, pb = some ⟨gb, 0, none⟩ ∧ gb < W1.heap.size ∧ ((W1.alloc (.cells #[.int .u8 0] 47)).alloc (.cells #[.slice p n c, .int .i64 0, .int .i64 0] 28)).heap[gb]? = some (.cells cc 4 (0, 0)) ∧ ∀ i, i < lenb → ∃ bv, cc[i]? = some (.bool bv) := fun h0 => by
    obtain ⟨gb, cc, r1, r2, r3⟩ := hrow h0
    have hg := lt_of_heap r2
    refine ⟨gb, cc, r1, hg, ?_, r3⟩
    rw [Below.heap_alloc _ _ gb (by simp; omega), Below.heap_alloc _ _ gb hg]
    exact r2
  generalize (W1.alloc (.cells #[.int .u8 0] 47)).alloc (.cells #[.slice p n c, .int .i64 0, .int .i64 0] 28) = W at sw1 sw2 sw3 sw4 hBW hszW hrowW ⊢
  have hnB : nB h ≤ 32767 ∧ cB h ≤ 1056 := by
    rcases (show h = 0 ∨ h = 1 ∨ h = 2 by omega) with rfl | rfl | rfl <;> decide
  refine (buildC h (by omega) w'.heap.size (W1.heap.size + 1) W1.heap.size ent 0 0 n c p _ _ _ _ W (by omega) rfl sw1 (by omega) (by omega) sw2 sw3 (by omega) sw4 (by omega) (by omega) (by omega)).mono ?_
  rintro e W4 ⟨x, σ, pos, nx, rfl, hR, hBt, hpos, hnx, hMB, hold, hown, hBu⟩
  clear sw1 sw2 sw3 sw4 hS1 hS1' hpos
  obtain ⟨r, hx, hro, hel, hBd⟩ := built_body hBu
  have c2 := hBt.c2
  have hb4 : w'.heap.size ≤ W4.heap.size := Nat.le_trans (by omega) hMB.below.size
  have hnxl : nx < 90000 := by omega
  have hrow4 : 0 < lenb → ∃ gb cc, pb = some ⟨gb, 0, none⟩ ∧ W4.heap[gb]? = some (.cells cc 4 (0, 0)) ∧ ∀ i, i < lenb → ∃ bv, cc[i]? = some (.bool bv) := fun h0 => by
    obtain ⟨gb, cc, r1, rl, r2, r3⟩ := hrowW h0
    exact ⟨gb, cc, r1, hMB.oth gb cc 4 (0, 0) r2 (by decide) (by decide) (by decide) (by omega), r3⟩
  have hWW : W.heap.size ≤ W4.heap.size := hMB.below.size
  have hown' : ∀ y r, σ y = some r → r.own = W1.heap.size := fun y r hy => by
    by_cases hlt : y < W.heap.size
    · rw [hold y hlt] at hy; cases hy
    · exact hown y r (by omega) hy
  have hel31 : r.es.length ≤ 31 := by omega
  have hsB : sB h ≤ 2114 := by
    rcases (show h = 0 ∨ h = 1 ∨ h = 2 by omega) with rfl | rfl | rfl <;> decide
  obtain ⟨S, hS⟩ : ∃ S, S = shp σ h x := ⟨_, rfl⟩
  have hSl : S.length ≤ 2114 := by have := shp_len h x 0 nx r hx hBd hel31; rw [hS]; omega
  have hS2 : 2 ≤ S.length := by rw [hS]; exact shp_two hx
  have hsh := shape_any h w'.heap.size x 0 0 nx 0 r (.slice none 0 0) [] σ W4 rfl hR hx hBd hel31 (by omega) hb4 (World.ownsRow_nil _ _ _ _) (by simp; omega)
  rw [← hS] at hsh
  have hcsl : r.cs.length < 1000000 := by have := body_cs hBd; split at this <;> omega
  have hshH := hide hsh; have hRH := hide hR; have hBH := hide hBd; have hxH := hide hx; have hx0 := hide hx; have hBWH := hide hBW; have hMBH := hide hMB; have hownH := hide hown'; have hSH := hide hS; have hroH := hide hro; have helH := hide hel; have hrow4H := hide hrow4
  clear hsh hR hBd hx hBW hMB hown hown' hS hro hel hold hBt hB1 hB1' hBb hBu hrow4 hrowW hrow hcbH hclH hb8H
  go_upto_region 16 with (first | (go_at_call 20; refine hshH.out.mono ?_; rintro e W5 ⟨v5, rfl, hS5⟩))
  obtain ⟨g5, cap5, hv5, hl5, hm5, hg5⟩ := ownsRow_pos hS5.own (by simp; omega)
  simp only [List.nil_append] at hv5 hl5
  subst hv5
  have hO5 := hS5.own
  simp only [List.nil_append] at hO5
  have hG5 : W4.grownBy W5 none := hS5.grow
  have hR5 : Rep w'.heap.size W5 σ := hRH.out.grown hG5
  obtain ⟨_, ct5, ht5⟩ := ownsRow_tag hO5 (b := g5) rfl
  have hb5 : w'.heap.size ≤ W5.heap.size := Nat.le_trans hb4 hG5.size
  have hBel5 : Below w'.heap.size w' W5 := hBWH.out.trans (hMBH.out.below.trans (below_grown hG5 hb4))
  have ho1 : W1.heap.size < W5.heap.size := by have := hG5.size; omega
  have hG5H := hide hG5; have hO5H := hide hO5; have hR5H := hide hR5; have ht5H := hide ht5; have hBel5H := hide hBel5
  clear hO5 hR5 ht5 hBel5 hS5 hshH hRH hBWH hMBH hG5
  obtain ⟨L, hL⟩ : ∃ L, L = S.length := ⟨_, rfl⟩
  rw [← hL] at hl5 ⊢
  have hLH := hide hL
  clear hL
  go_upto_region 17 with (first | (go_at_call 10; refine (newOwner_any _).mono ?_; rintro e W6 ⟨rfl, rfl⟩))
  obtain ⟨W6, hW6⟩ : ∃ W6, W6 = W5.alloc (.cells #[.int .u8 0] 47) := ⟨_, rfl⟩
  rw [← hW6]
  have hG6 : W5.grownBy W6 none := by rw [hW6]; exact grown_alloc _ _
  have hR6 : Rep w'.heap.size W6 σ := hR5H.out.grown hG6
  have ho6 : W6.heap[W5.heap.size]? = some (.cells #[.int .u8 0] 47 (0, 0)) := by rw [hW6]; exact heap_alloc_new W5 _
  have hb6 : w'.heap.size ≤ W6.heap.size := Nat.le_trans hb5 hG6.size
  have hwr := writable21 w'.heap.size x W5.heap.size r σ W6 hR6 hxH.out ho6 (by have := helH.out; omega) (by have := helH.out; omega) hcsl hb6
  have hwrH := hide hwr; have hG6H := hide hG6
  clear hwr hG6 hR6 ho6 hW6
  go_upto_region 18 with (first | (go_at_call 21; refine hwrH.out.mono ?_; rintro e W7 ⟨n', rfl, hG7, hor, hR7⟩))
  have hn' : σ n' = none := by
    rcases hor with ⟨_, h2⟩ | h2
    · exfalso; rw [hroH.out] at h2; omega
    · exact h2
  obtain ⟨r7, hr7⟩ : ∃ r7 : Nd, r7 = { r with own := W5.heap.size } := ⟨_, rfl⟩
  obtain ⟨σ7, hσ7⟩ : ∃ σ7, σ7 = upd σ n' r7 := ⟨_, rfl⟩
  rw [← hr7, ← hσ7] at hR7
  have hn7 : σ7 n' = some r7 := by rw [hσ7, upd_same]
  have hsub7 : ∀ y t, σ y = some t → σ7 y = some t := fun y t hy => by
    rw [hσ7, upd_other _ _ _ (fun e => by rw [e, hn'] at hy; cases hy)]
    exact hy
  have hB7 : Body σ7 h r7 0 nx := by rw [hr7]; exact body_own (body_mono hsub7 hBH.out)
  have hr7l : r7.es.length = ent := by rw [hr7]; exact helH.out
  have hr7o : r7.own = W5.heap.size := by rw [hr7]
  have hb7 : w'.heap.size ≤ W7.heap.size := Nat.le_trans hb6 hG7.size
  have hrow7 : 0 < lenb → ∃ gb cc, pb = some ⟨gb, 0, none⟩ ∧ W7.heap[gb]? = some (.cells cc 4 (0, 0)) ∧ ∀ i, i < lenb → ∃ bv, cc[i]? = some (.bool bv) := fun h0 => by
    obtain ⟨gb, cc, r1, r2, r3⟩ := hrow4H.out h0
    have h5 : W5.heap[gb]? = some (.cells cc 4 (0, 0)) := by rw [hG5H.out.block gb (lt_of_heap r2) (by simp)]; exact r2
    have h6 : W6.heap[gb]? = some (.cells cc 4 (0, 0)) := by rw [hG6H.out.block gb (lt_of_heap h5) (by simp)]; exact h5
    exact ⟨gb, cc, r1, by rw [hG7.block gb (lt_of_heap h6) (by simp)]; exact h6, r3⟩
  have hgr := script25 w'.heap.size n' W5.heap.size h nx lenb cb pb (nx : Int) σ7 W7 rfl ⟨σ7, r7, hR7, Mut.refl _ _, hn7, hr7o, hB7, by omega, Nat.le_refl _, Keeps.refl _ _ _ _⟩ hb7 hlb hnxl hrow7
  have hgrH := hide hgr; have hsub7H := hide hsub7; have hG7H := hide hG7; have hn'0 := hide hn'
  clear hgr hsub7 hG7 hr7 hσ7 hn7 hB7 hor hwrH hR7 hn' hr7l hr7o hrow7 hrow4H
  go_upto_region 21 with (first | (go_at_call 25; refine hgrH.out.mono ?_; rintro e W8 ⟨lo, hi, rfl, hS8⟩))
  obtain ⟨σ', r', g1, g2, g3, g4, g5', g6, g7, g8⟩ := hS8
  have hsub8 : ∀ y t, σ y = some t → σ' y = some t := fun y t hy => g8 y t (hsub7H.out y t hy) (.inl (by rw [hownH.out y t hy]; omega))
  have hx8 : σ' x = some r := hsub8 x r hxH.out
  have hB8 : Body σ' h r 0 nx := body_mono hsub8 hBH.out
  have hS8 : shp σ' h x = S := (shp_mono hsub8 h x 0 nx r hxH.out hBH.out).trans hSH.out.symm
  have hb8 : w'.heap.size ≤ W8.heap.size := Nat.le_trans hb7 g2.size
  have hle := body_le g5'
  have hsh := shape_any h w'.heap.size x 0 0 nx 0 r (.slice none 0 0) [] σ' W8 rfl g1 hx8 hB8 hel31 (by omega) hb8 (World.ownsRow_nil _ _ _ _) (by simp; omega)
  rw [hS8] at hsh
  have ht8 : W8.heap[g5]? = some (.cells ct5 3 (0, 0)) := by
    have h5 := ht5H.out
    have h6 : (W6.heap)[g5]? = some (.cells ct5 3 (0, 0)) := by rw [hG6H.out.block g5 (lt_of_heap h5) (by simp)]; exact h5
    have h7 : (W7.heap)[g5]? = some (.cells ct5 3 (0, 0)) := by rw [hG7H.out.block g5 (lt_of_heap h6) (by simp)]; exact h6
    exact g2.oth g5 ct5 3 (0, 0) h7 (by decide) (by decide) (by decide)
  have hBel8 : Below w'.heap.size w' W8 := hBel5H.out.trans ((below_grown hG6H.out hb5).trans ((below_grown hG7H.out hb6).trans g2.below))
  have hshH := hide hsh; have g1H := hide g1; have g3H := hide g3; have hx8H := hide hx8; have hB8H := hide hB8; have hB8'H := hide g5'; have ht8H := hide ht8; have hBel8H := hide hBel8
  clear hsub8 hx8 hB8 hS8 hsh ht8 hBel8 g1 g2 g3 g4 g5' g8 hBel5H hG6H hG7H hG5H hsub7H hxH hBH hownH hSH hroH helH hgrH hR5H c2
  go_upto_region 22 with (first | (go_at_call 20; refine hshH.out.mono ?_; rintro e W9 ⟨v9, rfl, hS9⟩))
  obtain ⟨g9, cap9, hv9, hl9, hm9, hg9⟩ := ownsRow_pos hS9.own (by simp; omega)
  simp only [List.nil_append] at hv9
  subst hv9
  have hO9 := hS9.own
  simp only [List.nil_append] at hO9
  have hG9 : W8.grownBy W9 none := hS9.grow
  have hR9 : Rep w'.heap.size W9 σ' := g1H.out.grown hG9
  have hL := hLH.out
  have hO5 := hO5H.out
  rw [← hL] at hO5 hO9 ⊢
  have ht9 : W9.heap[g5]? = W5.heap[g5]? := by rw [hG9.block g5 (lt_of_heap ht8H.out) (by simp), ht8H.out, ht5H.out]
  have hsm := same_any w'.heap.size g5 g9 L cap5 cap9 (fun k => (S.getD k 0 : Nat)) W9 (fun k hk => (World.cell?_of_block (a := ⟨g5, k, none⟩) ht9).trans (row_cells hO5 k hk)) (row_cells hO9) (by omega)
  have hb9 : w'.heap.size ≤ W9.heap.size := Nat.le_trans hb8 hG9.size
  have hBel9 : Below w'.heap.size w' W9 := hBel8H.out.trans (below_grown hG9 hb8)
  have hchk1 : Hid (∀ W10, W10.heap = W9.heap → Calls Try.prog 13 #[.pointer (some ⟨x, 0, none⟩), .int .i64 0, .int .i64 (nx : Int), .int .i64 (h : Int)] W10 fun e wz => e = .returned (.bool true) ∧ MutW w'.heap.size W10 wz) := fun W10 hW =>
    check_any w'.heap.size x 0 nx h 0 (nx : Int) (h : Int) r σ' W10 rfl rfl rfl (hR9.heap hW) hx8H.out hB8H.out hel31 (by omega) (by omega) (by omega) (by omega) (by rw [hW]; exact hb9)
  have hchk2 : Hid (∀ W10 W11, W10.heap = W9.heap → MutW w'.heap.size W10 W11 → Calls Try.prog 13 #[.pointer (some ⟨n', 0, none⟩), .int .i64 (lo : Int), .int .i64 (hi : Int), .int .i64 (h : Int)] W11 fun e wz => e = .returned (.bool true) ∧ MutW w'.heap.size W11 wz) := fun W10 W11 hW hM =>
    check_any w'.heap.size n' lo hi h (lo : Int) (hi : Int) (h : Int) r' σ' W11 rfl rfl rfl ((hR9.heap hW).mutW hM) g3H.out hB8'H.out g6 (by omega) hle (by omega) (by omega) (by have := hM.below.size; rw [hW] at this; omega)
  have hfin : Hid (∀ W10 W11 W12, Below W9.heap.size W9 W10 → MutW w'.heap.size W10 W11 → MutW w'.heap.size W11 W12 → Below w'.heap.size w' W12) := fun W10 W11 W12 h1 h2 h3 => hBel9.trans ((h1.mono hb9).trans (h2.below.trans h3.below))
  have hnx : x ≠ n' := fun e => by
    have h1 := hn'0.out
    rw [← e] at h1
    have h2 := hx0.out
    rw [h1] at h2
    cases h2
  have hsmH := hide hsm
  clear hsm hBel9 ht9 hO5 hO9 hL hR9 hG9 hS9 hg9 hm9 hl9 hshH g1H g3H hx8H hB8H hB8'H ht8H hBel8H hO5H ht5H hLH
  go_wp2_with (first
    | (go_at_call 22; refine hsmH.out.mono ?_; rintro e W10 ⟨rfl, hBl10, hW10⟩)
    | (go_at_call_of 13 (Value.pointer (some ⟨x, 0, none⟩)); refine (hchk1.out W10 hW10).mono ?_; rintro e W11 ⟨rfl, hM11⟩)
    | (go_at_call 13; refine (hchk2.out W10 _ hW10 hM11).mono ?_; rintro e W12 ⟨rfl, hM12⟩))
  go_ret
  exact ⟨rfl, hfin.out W10 W11 W12 hBl10 hM11 hM12⟩

end Go.Proofs.Qxb6001038a
