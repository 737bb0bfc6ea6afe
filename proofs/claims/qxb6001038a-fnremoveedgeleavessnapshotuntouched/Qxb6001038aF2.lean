import Derived.Test.Qxb6001038aF1
import Derived.Test.Qxb6001038aG10
import Derived.Test.Qxb6001038aE1
import Derived.Laws.Cover1
namespace Go.Proofs.Qxb6001038a
open Go.RowKit
set_option linter.unusedVariables false
set_option linter.unusedSimpArgs false
attribute [local go_sem ↓] Go.wp_at_zero Go.wp_at_succ

theorem child_rep (base x k : Nat) (kZ : Int) (r : Nd) (σ : Nat → Option Nd) (w : World) (hZ : kZ = k) (hR : Rep base w σ) (hr : σ x = some r) (hk : k < r.cs.length) (d : Nat) (hd : r.cs.getD k 0 = d) :
    Calls Try.prog 15 #[.pointer (some ⟨x, 0, none⟩), .int .i64 kZ] w fun e w' => e = .returned (.pointer (some ⟨d, 0, none⟩)) ∧ w' = w := by
  obtain ⟨ph, hp⟩ := hR
  obtain ⟨gc, capc, hv, hl, hm, hg⟩ := ownsRow_pos (hp.nd x r hr).kids (by omega)
  have c1 := hp.c1 hr
  rw [hv] at c1
  have hc := kid_cell hp hr hv k hk
  rw [hd] at hc
  exact child_Y x gc k r.cs.length capc _ kZ w hZ c1 hk hc
theorem num_rep (base x l : Nat) (r : Nd) (σ : Nat → Option Nd) (w : World) (hR : Rep base w σ) (hr : σ x = some r) (hl : r.es.length = l) :
    Calls Try.prog 14 #[.pointer (some ⟨x, 0, none⟩)] w fun e w' => e = .returned (.int .i64 l) ∧ w' = w := by
  obtain ⟨ph, hp⟩ := hR
  obtain ⟨p, cap, hv, _⟩ := ownsRow_shape (hp.nd x r hr).ents
  have c0 := hp.c0 hr
  rw [hv, hl] at c0
  exact numEntries_any x p l cap w c0

/-- ZZGrow. -/
theorem grow18 (B : Option Nat) (base n h lo hi i : Nat) (ii : Int) (r : Nd) (σ : Nat → Option Nd) (w : World) (hii : ii = i) (hR : Rep base w σ) (hN0 : NB B w σ) (hr : σ n = some r) (hk : Kids (Sub σ h) r.cs r.es lo hi) (hir : i ≤ r.es.length) (hre0 : 0 < r.es.length) (hre : r.es.length ≤ 31) (hbase : base ≤ w.heap.size) :
    Calls Try.prog 18 #[.pointer (some ⟨n, 0, none⟩), .int .i64 ii] w (GrowPost B base w σ n r h lo hi i) := by
  have hg := grow_any B base n h lo hi i ii r σ w hii hR hN0 hr hk hir hre0 hre hbase
  have hgH := hide hg
  clear hg hR hr hk hir hre0 hre hii
  go_enter Try.func18, Try.ntmps18
  go_wp2_with (go_at_call 36; refine hgH.out.mono ?_; rintro e w1 ⟨j, r', s', σ', rfl, hrest⟩)
  go_ret
  exact ⟨j, r', s', σ', rfl, hrest⟩

theorem bytes16 (a : Option Addr) (len cap : Nat) (x y z : Int) (w : World) (hl : len ≤ 9223372036854775807) :
    Calls Try.prog 16 #[.slice a len cap, .int .i64 x, .int .i64 y, .int .i64 z] w fun e w' => e = .returned (.bool (decide (len ≤ 1048576))) ∧ w' = w := by
  by_cases h : len ≤ 1048576
  · have h1 : ¬ ((1048576 : Int) < (len : Int)) := by omega
    go_enter Try.func16, Try.ntmps16
    go_wp2
    go_ret
    exact ⟨rfl, rfl⟩
  · have h1 : ((1048576 : Int) < (len : Int)) := by omega
    go_enter Try.func16, Try.ntmps16
    go_wp2
    go_ret
    exact ⟨by rw [decide_eq_false h]; rfl, rfl⟩

set_option maxHeartbeats 4000000 in
set_option maxRecDepth 100000 in
theorem fnGrow_main (a0 : Option Addr) (len0 cap0 : Nat) (z0 : List Int) (h i ent : Nat) (w : World) (w0 : IsRow .u8 w a0 len0 cap0 z0) (hl : len0 ≤ 65536) (hh1 : 1 ≤ h) (hh2 : h ≤ 2) (he1 : 1 ≤ ent) (he : ent ≤ 31) (hi : i ≤ ent) :
    Calls Try.prog 4 #[.slice a0 len0 cap0, .int .i64 h, .int .i64 ent, .int .i64 i] w fun e w' => e = .returned (.bool true) ∧ Below w.heap.size w w' := by
  have hlen := row_len w0
  have hd1 : decide (len0 ≤ 1048576) = true := by simp; omega
  have hb8 := bytes16 a0 len0 cap0 h ent i w hlen
  rw [hd1] at hb8
  have hcl := cloneU8_any a0 len0 cap0 z0 w w0 (by omega)
  obtain ⟨h', rfl⟩ : ∃ h', h = h' + 1 := ⟨h - 1, by omega⟩
  have hb8H := hide hb8; have hclH := hide hcl
  clear hb8 hcl w0
  have t1 : ¬ ((65536 : Int) < (len0 : Int)) := by omega
  have t2 : ¬ (((h' : Int) + 1) < 1) := by omega
  have t3 : ¬ (2 < ((h' : Int) + 1)) := by omega
  have t4 : ¬ ((ent : Int) < 1) := by omega
  have t5 : ¬ (31 < (ent : Int)) := by omega
  have t6 : ¬ ((i : Int) < 0) := by omega
  have t7 : ¬ ((ent : Int) < (i : Int)) := by omega
  go_enter Try.func4, Try.ntmps4
  go_wp2_with (first
    | (go_at_call 16; refine hb8H.out.mono ?_; rintro e w' ⟨rfl, rfl⟩)
    | (go_at_call 9; refine hclH.out.mono ?_; rintro e W1 ⟨p, n, c, rfl, hB1, hS1, hn1, hsz1⟩)
    | (go_at_call 10; refine (newOwner_any _).mono ?_; rintro e W2 ⟨rfl, rfl⟩))
  have hbW : w'.heap.size ≤ W1.heap.size := hsz1
  obtain ⟨sw1, sw2, sw3, sw4⟩ := start_world w'.heap.size W1 p n c hS1 hbW
  have hBW : Below w'.heap.size w' ((W1.alloc (.cells #[.int .u8 0] 47)).alloc (.cells #[.slice p n c, .int .i64 0, .int .i64 0] 28)) := (hB1.alloc hbW _).alloc (by simp; omega) _
  have hszW : ((W1.alloc (.cells #[.int .u8 0] 47)).alloc (.cells #[.slice p n c, .int .i64 0, .int .i64 0] 28)).heap.size = W1.heap.size + 2 := by simp
  generalize (W1.alloc (.cells #[.int .u8 0] 47)).alloc (.cells #[.slice p n c, .int .i64 0, .int .i64 0] 28) = W at sw1 sw2 sw3 sw4 hBW hszW ⊢
  have hnB : nB (h' + 1) ≤ 32767 ∧ cB (h' + 1) ≤ 1056 := by
    rcases (show h' = 0 ∨ h' = 1 by omega) with rfl | rfl <;> decide
  refine (buildC (h' + 1) (by omega) w'.heap.size (W1.heap.size + 1) W1.heap.size ent 0 0 n c p _ _ _ _ W (by omega) rfl sw1 (by omega) (by omega) sw2 sw3 (by omega) sw4 (by omega) (by omega) (by omega)).mono ?_
  rintro e W4 ⟨x, σ, pos, nx, rfl, hR, hBt, hpos, hnx, hMB, hold, hown, es, cs, hx, hBx, hel, hk, hfull⟩
  clear sw1 sw2 sw3 sw4 hS1 hold hpos
  have hkk : Kids (Sub σ h') cs es 0 nx := kids_mono (sub_le _ h') (fun c a b _ _ => sub_mono h' c a b (fun y r hy => (nw_some.1 hy).2)) hk
  have hcl := kids_len hkk
  have hsub := kids_get hkk i (by omega)
  have hst := stK_le (sub_le σ h') hkk i (by omega)
  have c2 := hBt.c2
  have hb4 : w'.heap.size ≤ W4.heap.size := Nat.le_trans (by omega) hMB.below.size
  obtain ⟨d, hd⟩ : ∃ d, cs.getD i 0 = d := ⟨_, rfl⟩
  rw [hd] at hsub
  obtain ⟨ka, hka⟩ : ∃ ka, ka = stK 0 es i := ⟨_, rfl⟩
  obtain ⟨kb, hkb⟩ : ∃ kb, kb = enK nx es i := ⟨_, rfl⟩
  rw [← hka, ← hkb] at hsub
  obtain ⟨k1, hk1⟩ : ∃ k1, k1 = kb - 1 := ⟨_, rfl⟩
  have hch := child_rep w'.heap.size x i i ⟨es, cs, W1.heap.size⟩ σ W4 rfl hR hx (by show i < cs.length; omega) d hd
  have he1 := edge_any w'.heap.size h' d ka kb false σ W4 hR hsub (by omega)
  have he2 := edge_any w'.heap.size h' d ka kb true σ W4 hR hsub (by omega)
  rw [if_neg (by decide)] at he1
  rw [if_pos rfl, ← hk1] at he2
  have hgr := grow18 none w'.heap.size x h' 0 nx i (i : Int) ⟨es, cs, W1.heap.size⟩ σ W4 rfl hR (NB.none _ _) hx hkk (by show i ≤ es.length; omega) (by show 0 < es.length; omega) (by show es.length ≤ 31; omega) hb4
  have hnxl : nx < 90000 := by omega
  have hchH := hide hch; have he1H := hide he1; have he2H := hide he2; have hgrH := hide hgr; have hBWH := hide hBW; have hMBH := hide hMB; have helH := hide hel; have hstH := hide hst; have hkaH := hide hka; have hkbH := hide hkb; have hk1H := hide hk1
  clear hch he1 he2 hgr hR hkk hx hBW hMB hk hfull hsub hown hBt hel hcl hB1 hst hka hkb hk1 hd hBx
  go_upto_region 19 with (first
    | (go_at_call 15; refine hchH.out.mono ?_; rintro e W5 ⟨rfl, rfl⟩)
    | (go_at_call_of 17 (Value.bool false); refine he1H.out.mono ?_; rintro e W5 ⟨rfl, rfl⟩)
    | (go_at_call_of 17 (Value.bool true); refine he2H.out.mono ?_; rintro e W5 ⟨rfl, rfl⟩)
    | (go_at_call 18; refine hgrH.out.mono ?_; rintro e W7 ⟨j, r', s', σ', rfl, g1, g2, g3, g4, g5, g6, g7, g8, g9, g10, g11, g12, g13, g14, g15, g16, g17⟩))
  try dsimp only at g4
  try dsimp only at g6
  try dsimp only at g9
  try dsimp only at g10
  try dsimp only at g14
  try dsimp only at g15
  have hb7 : w'.heap.size ≤ W7.heap.size := Nat.le_trans hb4 g2.size
  have hel := helH.out
  have hB7 : Body σ' (h' + 1) r' 0 nx := g5
  have hlen' := kids_len g5
  have hchk := check_any w'.heap.size x 0 nx (h' + 1) 0 (nx : Int) ((h' : Int) + 1) r' σ' W7 rfl rfl (by omega) g1 g3 hB7 (by omega) (by omega) (by omega) (by omega) (by omega) hb7
  have hsub := kids_get g5 j g8
  obtain ⟨c', hc'⟩ : ∃ c', r'.cs.getD j 0 = c' := ⟨_, rfl⟩
  obtain ⟨l', hl'⟩ : ∃ l', s'.es.length = l' := ⟨_, rfl⟩
  rw [hc'] at hsub g11
  obtain ⟨ja, hja⟩ : ∃ ja, ja = stK 0 r'.es j := ⟨_, rfl⟩
  obtain ⟨jb, hjb⟩ : ∃ jb, jb = enK nx r'.es j := ⟨_, rfl⟩
  obtain ⟨j1, hj1⟩ : ∃ j1, j1 = jb - 1 := ⟨_, rfl⟩
  have hst' := stK_le (sub_le σ' h') g5 j g8
  have hst := hstH.out
  rw [← hja, ← hjb] at hsub
  rw [← hja, ← hjb] at hst'
  rw [← hja, ← hkaH.out] at g14
  rw [← hjb, ← hkbH.out] at g15
  rw [← hkaH.out, ← hkbH.out] at hst
  have hcmp1 := le6 ja ka g14 (by omega)
  have hcmp2 := ge6 j1 k1 (by have := hk1H.out; omega) (by omega)
  have hl15 : ¬ ((l' : Int) ≤ 15) := by omega
  have hrep : Hid (∀ W8, MutW w'.heap.size W7 W8 → Rep w'.heap.size W8 σ') := fun W8 hM => g1.mutW hM
  have hedge : Hid (∀ W8, Rep w'.heap.size W8 σ' → (Calls Try.prog 17 #[.pointer (some ⟨c', 0, none⟩), .bool false] W8 fun e w' => e = .returned (.string (p6 ja)) ∧ w' = W8) ∧ (Calls Try.prog 17 #[.pointer (some ⟨c', 0, none⟩), .bool true] W8 fun e w' => e = .returned (.string (p6 j1)) ∧ w' = W8)) := fun W8 hR8 => by
    have e1 := edge_any w'.heap.size h' c' ja jb false σ' W8 hR8 hsub (by omega)
    have e2 := edge_any w'.heap.size h' c' ja jb true σ' W8 hR8 hsub (by omega)
    rw [if_neg (by decide)] at e1
    rw [if_pos rfl, ← hj1] at e2
    exact ⟨e1, e2⟩
  have hfin : Hid (∀ W6, MutW w'.heap.size W7 W6 → Below w'.heap.size w' W6) := fun W6 hM6 => hBWH.out.trans (hMBH.out.below.trans (g2.below.trans hM6.below))
  have hjl : j < r'.cs.length := by omega
  have hchkH := hide hchk; have hc'H := hide hc'; have hl'H := hide hl'; have g3H := hide g3; have g11H := hide g11
  clear hb7 hel hB7 hlen' hchk hsub hc' hl' hja hjb hj1 hst' hst g1 g2 g3 g4 g5 g6 g8 g9 g10 g11 g12 g13 g14 g15 g16 g17 hBWH hMBH helH hstH hkaH hkbH hk1H hchH he1H he2H hgrH hclH hb8H c2
  rcases g7 with g7 | g7
  · subst g7
    have hnee : ((j : Int) != (j : Int)) = false := by simp
    go_wp2_with (first
      | (go_at_call 13; refine hchkH.out.mono ?_; rintro e W8 ⟨rfl, hM8⟩; have hR8 := hide (hrep.out _ hM8))
      | (go_at_call 15; refine (child_rep w'.heap.size x j _ r' σ' _ rfl hR8.out g3H.out hjl c' hc'H.out).mono ?_; rintro e w9 ⟨rfl, rfl⟩)
      | (go_at_call 14; refine (num_rep w'.heap.size c' l' s' σ' _ hR8.out g11H.out hl'H.out).mono ?_; rintro e w9 ⟨rfl, rfl⟩)
      | (go_at_call_of 17 (Value.bool false); refine (hedge.out _ hR8.out).1.mono ?_; rintro e w9 ⟨rfl, rfl⟩)
      | (go_at_call_of 17 (Value.bool true); refine (hedge.out _ hR8.out).2.mono ?_; rintro e w9 ⟨rfl, rfl⟩))
    go_ret
    exact ⟨rfl, hfin.out _ hM8⟩
  · subst g7
    have hnee : ((j : Int) != (j : Int)) = false := by simp
    have hne1 : ((j : Int) != (j : Int) + 1) = true := by rw [bne_iff_ne]; omega
    have hw1 : IntKind.i64.wrap ((j : Int) + 1 - 1) = j := by rw [show ((j : Int) + 1 - 1) = j by omega]; exact wrap_nat j (by omega)
    have hw2 : IntKind.i64.wrap (j : Int) = j := wrap_nat j (by omega)
    go_wp2_with (first
      | (go_at_call 13; refine hchkH.out.mono ?_; rintro e W8 ⟨rfl, hM8⟩; have hR8 := hide (hrep.out _ hM8))
      | (go_at_call 15; refine (child_rep w'.heap.size x j _ r' σ' _ rfl hR8.out g3H.out hjl c' hc'H.out).mono ?_; rintro e w9 ⟨rfl, rfl⟩)
      | (go_at_call 14; refine (num_rep w'.heap.size c' l' s' σ' _ hR8.out g11H.out hl'H.out).mono ?_; rintro e w9 ⟨rfl, rfl⟩)
      | (go_at_call_of 17 (Value.bool false); refine (hedge.out _ hR8.out).1.mono ?_; rintro e w9 ⟨rfl, rfl⟩)
      | (go_at_call_of 17 (Value.bool true); refine (hedge.out _ hR8.out).2.mono ?_; rintro e w9 ⟨rfl, rfl⟩))
    go_ret
    exact ⟨rfl, hfin.out _ hM8⟩

end Go.Proofs.Qxb6001038a
