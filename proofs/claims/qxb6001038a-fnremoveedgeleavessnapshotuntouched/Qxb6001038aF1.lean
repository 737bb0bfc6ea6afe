import Derived.Test.Qxb6001038aK2
namespace Go.Proofs.Qxb6001038a
open Go.RowKit
set_option linter.unusedVariables false

theorem child_Z (n b i : Nat) (len cap : Nat) (c : Option Addr) (iZ : Int) (w : World) (hZ : iZ = i) (h : w.cell? ⟨n, 1, none⟩ = some (.slice (some ⟨b, 0, none⟩) len cap)) (hi : i < len) (hc : w.cell? ⟨b, i, none⟩ = some (.pointer c)) :
    Calls Try.prog 15 #[.pointer (some ⟨n, 0, none⟩), .int .i64 iZ] w fun e w' => e = .returned (.pointer c) ∧ w' = w := by
  subst hZ
  exact child_any n b i len cap c w h hi hc

theorem row_len {k : IntKind} {w : World} {a : Option Addr} {len cap : Nat} {zs : List Int} (h : IsRow k w a len cap zs) : len ≤ 9223372036854775807 := by
  rcases h with ⟨_, rfl, _, _⟩ | ⟨x, _, h1, h2, _⟩
  · omega
  · unfold maxLen at h2; omega

theorem bytes8 (a : Option Addr) (len cap : Nat) (x y z : Int) (w : World) (hl : len ≤ 9223372036854775807) :
    Calls Try.prog 8 #[.slice a len cap, .int .i64 x, .int .i64 y, .int .i64 z] w fun e w' => e = .returned (.bool (decide (len ≤ 1048576))) ∧ w' = w := by
  by_cases h : len ≤ 1048576
  · have h1 : ¬ ((1048576 : Int) < (len : Int)) := by omega
    go_enter Try.func8, Try.ntmps8
    go_wp2
    go_ret
    exact ⟨rfl, rfl⟩
  · have h1 : ((1048576 : Int) < (len : Int)) := by omega
    go_enter Try.func8, Try.ntmps8
    go_wp2
    go_ret
    exact ⟨by rw [decide_eq_false h]; rfl, rfl⟩

set_option maxHeartbeats 4000000 in
set_option maxRecDepth 100000 in
theorem fnSplit_main (a0 : Option Addr) (len0 cap0 : Nat) (z0 : List Int) (h i ent : Nat) (w : World) (w0 : IsRow .u8 w a0 len0 cap0 z0) (hl : len0 ≤ 65536) (hh1 : 1 ≤ h) (hh2 : h ≤ 2) (he : ent ≤ 30) (hi : i ≤ ent) :
    Calls Try.prog 3 #[.slice a0 len0 cap0, .int .i64 h, .int .i64 ent, .int .i64 i] w fun e w' => e = .returned (.bool true) ∧ Below w.heap.size w w' := by
  have hlen := row_len w0
  have hd1 : decide (len0 ≤ 1048576) = true := by simp; omega
  have hb8 := bytes8 a0 len0 cap0 h ent i w hlen
  rw [hd1] at hb8
  have hcl := cloneU8_any a0 len0 cap0 z0 w w0 (by omega)
  obtain ⟨h', rfl⟩ : ∃ h', h = h' + 1 := ⟨h - 1, by omega⟩
  have hb8H := hide hb8; have hclH := hide hcl
  clear hb8 hcl w0
  have t1 : ¬ ((65536 : Int) < (len0 : Int)) := by omega
  have t2 : ¬ (((h' : Int) + 1) < 1) := by omega
  have t3 : ¬ (2 < ((h' : Int) + 1)) := by omega
  have t4 : ¬ ((ent : Int) < 0) := by omega
  have t5 : ¬ (30 < (ent : Int)) := by omega
  have t6 : ¬ ((i : Int) < 0) := by omega
  have t7 : ¬ ((ent : Int) < (i : Int)) := by omega
  go_enter Try.func3, Try.ntmps3
  go_wp2_with (first
    | (go_at_call 8; refine hb8H.out.mono ?_; rintro e w' ⟨rfl, rfl⟩)
    | (go_at_call 9; refine hclH.out.mono ?_; rintro e W1 ⟨p, n, c, rfl, hB1, hS1, hn1, hsz1⟩)
    | (go_at_call 10; refine (newOwner_any _).mono ?_; rintro e W2 ⟨rfl, rfl⟩))
  have hbW : w'.heap.size ≤ W1.heap.size := hsz1
  obtain ⟨sw1, sw2, sw3, sw4⟩ := start_world w'.heap.size W1 p n c hS1 hbW
  have hBW : Below w'.heap.size w' ((W1.alloc (.cells #[.int .u8 0] 47)).alloc (.cells #[.slice p n c, .int .i64 0, .int .i64 0] 28)) := (hB1.alloc hbW _).alloc (by simp; omega) _
  have hszW : ((W1.alloc (.cells #[.int .u8 0] 47)).alloc (.cells #[.slice p n c, .int .i64 0, .int .i64 0] 28)).heap.size = W1.heap.size + 2 := by simp
  generalize (W1.alloc (.cells #[.int .u8 0] 47)).alloc (.cells #[.slice p n c, .int .i64 0, .int .i64 0] 28) = W at sw1 sw2 sw3 sw4 hBW hszW ⊢
  have hnB : nB (h' + 1) ≤ 32767 ∧ cB (h' + 1) ≤ 1056 := by
    rcases (show h' = 0 ∨ h' = 1 by omega) with rfl | rfl <;> decide
  refine (buildC (h' + 1) (by omega) w'.heap.size (W1.heap.size + 1) W1.heap.size ent 0 0 n c p _ _ _ _ W (by omega) rfl sw1 (by omega) (by omega) sw2 sw3 (by omega) sw4 (by omega) (by omega) (by omega)).mono ?_
  rintro e W4 ⟨x, σ, pos, nx, rfl, hR, hBt, hpos, hnx, hMB, hold, hown, es, cs, hx, hBx, hel, hk, hfull⟩
  clear sw1 sw2 sw3 sw4 hS1 hold hpos
  have hkk : Kids (Sub σ h') cs es 0 nx := kids_mono (sub_le _ h') (fun c a b _ _ => sub_mono h' c a b (fun y r hy => (nw_some.1 hy).2)) hk
  have hcl := kids_len hkk
  obtain ⟨s, hs, hsl⟩ := hfull i rfl hi
  have hsub := kids_get hkk i (by omega)
  have hcx : cs.getD i 0 ≠ x := fun e' => by
    rw [e', hx] at hs
    cases hs
    rw [hel] at hsl
    omega
  have c2 := hBt.c2
  have hb4 : w'.heap.size ≤ W4.heap.size := Nat.le_trans (by omega) hMB.below.size
  have hsp := split_any w'.heap.size x i h' _ _ (i : Int) ⟨es, cs, W1.heap.size⟩ s σ W4 rfl hR hx hs hcx (by show i < cs.length; omega) hsl hsub (by show es.length < 100; omega) (by show cs.length < 100; omega) (by show i ≤ es.length; omega) hb4
  have hspH := hide hsp; have hRH := hide hR; have hkH := hide hkk; have hsH := hide hs; have hslH := hide hsl; have hxH := hide hx; have hBWH := hide hBW; have hMBH := hide hMB; have helH := hide hel; have hclH2 := hide hcl; have hcxH := hide hcx
  clear hsp hR hkk hs hsl hx hBW hMB hk hfull hsub hown hBt hel hcl hcx hB1
  go_upto_region 17 with (first | (go_at_call 12; refine hspH.out.mono ?_; rintro e W5 ⟨rfl, hM5, m, hm, hR5⟩))
  obtain ⟨σ', hσ'⟩ : ∃ σ', σ' = upd (upd (upd σ m ⟨s.es.drop 16, s.cs.drop 16, W1.heap.size⟩) (cs.getD i 0) { s with es := s.es.take 15, cs := s.cs.take 16 }) x { es := es.take i ++ ([s.es.getD 15 0] ++ es.drop i), cs := cs.take (i + 1) ++ ([m] ++ cs.drop (i + 1)), own := W1.heap.size : Nd } := ⟨_, rfl⟩
  have hR5' : Rep w'.heap.size W5 σ' := by rw [hσ']; exact hR5
  have hm0 : σ m = none := hRH.out.fresh hm
  have hcl := hclH2.out
  have hel := helH.out
  have hlaw := split_law (σ' := σ') (i := i) hxH.out hkH.out (by show i ≤ es.length; omega) hcxH.out hsH.out hslH.out hm0 hσ'
  have hxm : x ≠ m := fun e' => by rw [← e', hxH.out] at hm0; cases hm0
  have hcm : cs.getD i 0 ≠ m := fun e' => by rw [← e', hsH.out] at hm0; cases hm0
  have hx' : σ' x = some { es := es.take i ++ ([s.es.getD 15 0] ++ es.drop i), cs := cs.take (i + 1) ++ ([m] ++ cs.drop (i + 1)), own := W1.heap.size : Nd } := by rw [hσ', upd_same]
  have hc' : σ' (cs.getD i 0) = some { s with es := s.es.take 15, cs := s.cs.take 16 } := by rw [hσ', upd_other _ _ _ hcxH.out, upd_same]
  have hm' : σ' m = some ⟨s.es.drop 16, s.cs.drop 16, W1.heap.size⟩ := by rw [hσ', upd_other _ _ _ (Ne.symm hxm), upd_other _ _ _ (Ne.symm hcm), upd_same]
  obtain ⟨r', hr'⟩ : ∃ r' : Nd, r' = { es := es.take i ++ ([s.es.getD 15 0] ++ es.drop i), cs := cs.take (i + 1) ++ ([m] ++ cs.drop (i + 1)), own := W1.heap.size } := ⟨_, rfl⟩
  have hr'e : r'.es.length = ent + 1 := by rw [hr']; simp; omega
  have hr'c : r'.cs.length = ent + 2 := by rw [hr']; simp; omega
  have hg1 : r'.cs.getD i 0 = cs.getD i 0 := by
    rw [hr']
    simp only [List.getD]
    rw [List.getElem?_append_left (by simp; omega), List.getElem?_take, if_pos (by omega)]
  have hg2 : r'.cs.getD (i + 1) 0 = m := by
    rw [hr']
    simp only [List.getD]
    rw [List.getElem?_append_right (by simp; omega)]
    simp [show min (i + 1) cs.length = i + 1 by omega]
  rw [← hr'] at hx'
  have hB5 : Body σ' (h' + 1) r' 0 nx := by rw [hr']; exact hlaw
  have hb5 : w'.heap.size ≤ W5.heap.size := Nat.le_trans hb4 hM5.size
  have hchk := check_any w'.heap.size x 0 nx (h' + 1) 0 (nx : Int) ((h' : Int) + 1) r' σ' W5 rfl rfl (by omega) hR5' hx' hB5 (by omega) (by omega) (by omega) (by omega) (by omega) hb5
  have hread : Hid (∀ W6, MutW w'.heap.size W5 W6 → ∃ pe ce gc cc p1 q1 p2 q2, W6.cell? ⟨x, 0, none⟩ = some (.slice pe (ent + 1) ce) ∧ W6.cell? ⟨x, 1, none⟩ = some (.slice (some ⟨gc, 0, none⟩) (ent + 2) cc) ∧ W6.cell? ⟨gc, i, none⟩ = some (.pointer (some ⟨cs.getD i 0, 0, none⟩)) ∧ W6.cell? ⟨gc, i + 1, none⟩ = some (.pointer (some ⟨m, 0, none⟩)) ∧
      W6.cell? ⟨cs.getD i 0, 0, none⟩ = some (.slice p1 15 q1) ∧ W6.cell? ⟨m, 0, none⟩ = some (.slice p2 15 q2)) := by
    intro W6 hM6
    obtain ⟨ph, hp⟩ := hR5'.mutW hM6
    obtain ⟨pe, ce, e1, _⟩ := ownsRow_shape (hp.nd x r' hx').ents
    obtain ⟨gc, cc, e2, _⟩ := ownsRow_pos (hp.nd x r' hx').kids (by omega)
    obtain ⟨p1, q1, e3, _⟩ := ownsRow_shape (hp.nd _ _ hc').ents
    obtain ⟨p2, q2, e4, _⟩ := ownsRow_shape (hp.nd _ _ hm').ents
    have l1 : (s.es.take 15).length = 15 := by rw [List.length_take, hslH.out]; rfl
    have l2 : (s.es.drop 16).length = 15 := by rw [List.length_drop, hslH.out]
    refine ⟨pe, ce, gc, cc, p1, q1, p2, q2, by rw [hp.c0 hx', e1, hr'e], by rw [hp.c1 hx', e2, hr'c], ?_, ?_, by rw [hp.c0 hc', e3]; simp only [l1], by rw [hp.c0 hm', e4]; simp only [l2]⟩
    · rw [← hg1]; exact kid_cell hp hx' e2 i (by omega)
    · rw [← hg2]; exact kid_cell hp hx' e2 (i + 1) (by omega)
  have hfin : Hid (∀ W6, MutW w'.heap.size W5 W6 → Below w'.heap.size w' W6) := fun W6 hM6 => hBWH.out.trans (hMBH.out.below.trans (hM5.below.trans hM6.below))
  obtain ⟨ch, hch⟩ : ∃ ch, ch = cs.getD i 0 := ⟨_, rfl⟩
  rw [← hch] at hread
  have hchkH := hide hchk
  have hie : i < ent + 2 := by omega
  have hie2 : i + 1 < ent + 2 := by omega
  have hnee : ((ent : Int) + 1 != (ent : Int) + 1) = false := by simp
  clear hσ' hR5 hR5' hm0 hcl hel hlaw hxm hcm hx' hc' hm' hr' hr'e hr'c hg1 hg2 hB5 hb5 hchk hch hM5 hspH hRH hkH hsH hslH hxH hBWH hMBH helH hclH2 hcxH hclH hb8H c2
  go_wp2_with (first
    | (go_at_call 13; refine hchkH.out.mono ?_; rintro e W6 ⟨rfl, hM6⟩; obtain ⟨pe, ce, gc, cc, p1, q1, p2, q2, r1, r2, r3, r4, r5, r6⟩ := hread.out _ hM6)
    | (go_at_call_of 14 (Value.pointer (some ⟨x, 0, none⟩)); refine (numEntries_any x _ (ent + 1) _ _ r1).mono ?_; rintro e w7 ⟨rfl, rfl⟩)
    | (go_at_call_of 15 (Value.int .i64 (i : Int)); refine (child_any x gc i (ent + 2) cc _ _ r2 hie r3).mono ?_; rintro e w7 ⟨rfl, rfl⟩)
    | (go_at_call_of 14 (Value.pointer (some ⟨ch, 0, none⟩)); refine (numEntries_any ch _ 15 _ _ r5).mono ?_; rintro e w7 ⟨rfl, rfl⟩)
    | (go_at_call 15; refine (child_Z x gc (i + 1) (ent + 2) cc _ _ _ (by omega) r2 hie2 r4).mono ?_; rintro e w7 ⟨rfl, rfl⟩)
    | (go_at_call_of 14 (Value.pointer (some ⟨m, 0, none⟩)); refine (numEntries_any m _ 15 _ _ r6).mono ?_; rintro e w7 ⟨rfl, rfl⟩))
  go_ret
  exact ⟨rfl, hfin.out _ hM6⟩

end Go.Proofs.Qxb6001038a
