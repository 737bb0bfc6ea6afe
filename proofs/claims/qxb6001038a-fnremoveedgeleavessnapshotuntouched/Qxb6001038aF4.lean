import Derived.Test.Qxb6001038aR3
namespace Go.Proofs.Qxb6001038a
open Go.RowKit
set_option linter.unusedVariables false
set_option linter.unusedSimpArgs false
attribute [local go_sem ↓] Go.wp_at_zero Go.wp_at_succ

/-- What came in as a slice of bools. -/
def IsBools (w : World) (a : Option Addr) (len cap : Nat) : Prop :=
  (a = none ∧ len = 0 ∧ cap = 0) ∨ ∃ (x : Addr) (V : Nat → Bool), a = some x ∧ len ≤ cap ∧ cap ≤ maxLen ∧ ∀ i, i < cap → w.cell? (x.add i) = some (.bool (V i))
theorem bools_len {w : World} {a : Option Addr} {len cap : Nat} (h : IsBools w a len cap) : len ≤ 9223372036854775807 := by
  rcases h with ⟨_, rfl, _⟩ | ⟨x, V, _, h1, h2, _⟩
  · omega
  · unfold maxLen at h2; omega
theorem IsBools.keep {w w' : World} {a : Option Addr} {len cap : Nat} (h : IsBools w a len cap) (hB : Below w.heap.size w w') : IsBools w' a len cap := by
  rcases h with h | ⟨x, V, h0, h1, h2, h3⟩
  · exact .inl h
  · refine .inr ⟨x, V, h0, h1, h2, fun i hi => ?_⟩
    have := World.block_lt_of_cell? _ _ (h3 i hi)
    rw [hB.cell this]
    exact h3 i hi

theorem cloneBo_any (a : Option Addr) (len cap : Nat) (w : World) (h : IsBools w a len cap) (hl : len ≤ 1000000) :
    Calls Try.prog 24 #[.slice a len cap] w fun e w' => ∃ p c, e = .returned (.slice p len c) ∧ Below w.heap.size w w' ∧ (0 < len → ∃ gb cc, p = some ⟨gb, 0, none⟩ ∧ w'.heap[gb]? = some (.cells cc 4 (0, 0)) ∧ ∀ i, i < len → ∃ bv, cc[i]? = some (.bool bv)) := by
  rcases h with ⟨rfl, rfl, rfl⟩ | ⟨x, V, rfl, h1, h2, h3⟩
  · refine (cloneBo_nil w).mono ?_
    rintro e w' ⟨rfl, rfl⟩
    exact ⟨none, 0, rfl, Below.refl _ _, fun h => by omega⟩
  · refine (cloneBo_row x len cap V w hl (fun i hi => h3 i (by omega))).mono ?_
    rintro e w' ⟨rfl, hB, hrow⟩
    refine ⟨_, len, rfl, hB, fun h0 => ?_⟩
    obtain ⟨c, hc1, hc2, hc3⟩ := hrow
    exact ⟨w.heap.size, c, rfl, hc1, fun j hj => ⟨V j, hc3 j hj⟩⟩

theorem bytes23 (a b : Option Addr) (len cap lenb capb : Nat) (x y : Int) (w : World) (hl : len ≤ 9223372036854775807) (hlb : lenb ≤ 9223372036854775807) :
    Calls Try.prog 23 #[.slice a len cap, .int .i64 x, .int .i64 y, .slice b lenb capb] w fun e w' => e = .returned (.bool (decide (len + lenb ≤ 1048576))) ∧ w' = w := by
  by_cases h : len ≤ 1048576
  · have h1 : ¬ ((1048576 : Int) < (len : Int)) := by omega
    by_cases h2 : lenb ≤ 1048576
    · have h3 : ¬ ((1048576 : Int) < (lenb : Int)) := by omega
      have hw : IntKind.i64.wrap ((len : Int) + (lenb : Int)) = (len : Int) + (lenb : Int) := by rw [IntKind.wrap_i64]; omega
      by_cases h4 : len + lenb ≤ 1048576
      · have h5 : ¬ ((1048576 : Int) < (len : Int) + (lenb : Int)) := by omega
        go_enter Try.func23, Try.ntmps23
        go_wp2
        go_ret
        first | exact ⟨rfl, rfl⟩ | exact ⟨by rw [decide_eq_true h4]; rfl, rfl⟩
      · have h5 : ((1048576 : Int) < (len : Int) + (lenb : Int)) := by omega
        go_enter Try.func23, Try.ntmps23
        go_wp2
        go_ret
        first | exact ⟨rfl, rfl⟩ | exact ⟨by rw [decide_eq_false h4]; rfl, rfl⟩
    · have h3 : ((1048576 : Int) < (lenb : Int)) := by omega
      go_enter Try.func23, Try.ntmps23
      go_wp2
      go_ret
      first | exact ⟨rfl, rfl⟩ | exact ⟨by rw [decide_eq_false (by omega)]; rfl, rfl⟩
  · have h1 : ((1048576 : Int) < (len : Int)) := by omega
    go_enter Try.func23, Try.ntmps23
    go_wp2
    go_ret
    first | exact ⟨rfl, rfl⟩ | exact ⟨by rw [decide_eq_false (by omega)]; rfl, rfl⟩

theorem built_body {σ : Nat → Option Nd} {B h x ent nx o : Nat} {f : Int} (hb : Built σ B h x ent 0 nx o f) : ∃ r, σ x = some r ∧ r.own = o ∧ r.es.length = ent ∧ Body σ h r 0 nx := by
  cases h with
  | zero =>
    obtain ⟨h1, h2, h3⟩ := hb
    exact ⟨_, h1, rfl, by simp, rfl, by simp, by simpa using h3⟩
  | succ h =>
    obtain ⟨es, cs, h1, h2, h3, hk, _⟩ := hb
    exact ⟨_, h1, rfl, h3, kids_mono (sub_le _ h) (fun c a b _ _ => sub_mono h c a b (fun y r hy => (nw_some.1 hy).2)) hk⟩

set_option maxHeartbeats 4000000 in
set_option maxRecDepth 100000 in
theorem fnEdge_main (a0 b0 : Option Addr) (len0 cap0 lenb capb : Nat) (z0 : List Int) (h ent : Nat) (w : World) (w0 : IsRow .u8 w a0 len0 cap0 z0) (wb : IsBools w b0 lenb capb) (hl : len0 ≤ 65536) (hlb : lenb ≤ 65536) (hh2 : h ≤ 2) (he1 : 16 ≤ ent) (he : ent ≤ 31) :
    Calls Try.prog 6 #[.slice a0 len0 cap0, .int .i64 h, .int .i64 ent, .slice b0 lenb capb] w fun e w' => e = .returned (.bool true) ∧ Below w.heap.size w w' := by
  have hlen := row_len w0
  have hlen' := bools_len wb
  have hb8 := bytes23 a0 b0 len0 cap0 lenb capb h ent w hlen hlen'
  rw [decide_eq_true (by omega)] at hb8
  have hcl := cloneU8_any a0 len0 cap0 z0 w w0 (by omega)
  have hcb : ∀ W1, Below w.heap.size w W1 → _ := fun W1 hB => cloneBo_any b0 lenb capb W1 (wb.keep hB) (by omega)
  have hb8H := hide hb8; have hclH := hide hcl; have hcbH := hide hcb
  clear hb8 hcl w0 wb hcb
  have t1 : ¬ ((65536 : Int) < (len0 : Int)) := by omega
  have t1b : ¬ ((65536 : Int) < (lenb : Int)) := by omega
  have t2 : ¬ ((h : Int) < 0) := by omega
  have t3 : ¬ (2 < (h : Int)) := by omega
  have t4 : ¬ ((ent : Int) < 16) := by omega
  have t5 : ¬ (31 < (ent : Int)) := by omega
  go_enter Try.func6, Try.ntmps6
  go_wp2_with (first
    | (go_at_call 23; refine hb8H.out.mono ?_; rintro e w' ⟨rfl, rfl⟩)
    | (go_at_call 9; refine hclH.out.mono ?_; rintro e W0 ⟨p, n, c, rfl, hB1, hS1, hn1, hsz1⟩)
    | (go_at_call 24; refine (hcbH.out W0 hB1).mono ?_; rintro e W1 ⟨pb, cb, rfl, hBb, hrow⟩)
    | (go_at_call 10; refine (newOwner_any _).mono ?_; rintro e W2 ⟨rfl, rfl⟩))
  have hsz0 : W0.heap.size ≤ W1.heap.size := hBb.size
  have hS1' : Siz W1 p n := hS1.keep (fun b c hc => by rw [hBb.block b (lt_of_heap hc)]; exact hc)
  have hbW : w'.heap.size ≤ W1.heap.size := Nat.le_trans hsz1 hsz0
  obtain ⟨sw1, sw2, sw3, sw4⟩ := start_world w'.heap.size W1 p n c hS1' hbW
  have hB1' : Below w'.heap.size w' W1 := hB1.trans (hBb.mono hsz1)
  have hBW : Below w'.heap.size w' ((W1.alloc (.cells #[.int .u8 0] 47)).alloc (.cells #[.slice p n c, .int .i64 0, .int .i64 0] 28)) := (hB1'.alloc hbW _).alloc (by simp; omega) _
  have hszW : ((W1.alloc (.cells #[.int .u8 0] 47)).alloc (.cells #[.slice p n c, .int .i64 0, .int .i64 0] 28)).heap.size = W1.heap.size + 2 := by simp
  have hrowW : 0 < lenb → ∃ gb cc, pb = some ⟨gb, 0, none⟩ ∧ gb < W1.heap.size ∧ ((W1.alloc (.cells #[.int .u8 0] 47)).alloc (.cells #[.slice p n c, .int .i64 0, .int .i64 0] 28)).heap[gb]? = some (.cells cc 4 (0, 0)) ∧ ∀ i, i < lenb → ∃ bv, cc[i]? = some (.bool bv) := fun h0 => by
    obtain ⟨gb, cc, r1, r2, r3⟩ := hrow h0
    have hg := lt_of_heap r2
    refine ⟨gb, cc, r1, hg, ?_, r3⟩
    rw [Below.heap_alloc _ _ gb (by simp; omega), Below.heap_alloc _ _ gb hg]
    exact r2
  generalize (W1.alloc (.cells #[.int .u8 0] 47)).alloc (.cells #[.slice p n c, .int .i64 0, .int .i64 0] 28) = W at sw1 sw2 sw3 sw4 hBW hszW hrowW ⊢
  have hnB : nB h ≤ 32767 ∧ cB h ≤ 1056 := by
    rcases (show h = 0 ∨ h = 1 ∨ h = 2 by omega) with rfl | rfl | rfl <;> decide
  refine (buildC h (by omega) w'.heap.size (W1.heap.size + 1) W1.heap.size ent 0 0 n c p _ _ _ _ W (by omega) rfl sw1 (by omega) (by omega) sw2 sw3 (by omega) sw4 (by omega) (by omega) (by omega)).mono ?_
  rintro e W4 ⟨x, σ, pos, nx, rfl, hR, hBt, hpos, hnx, hMB, hold, hown, hBu⟩
  clear sw1 sw2 sw3 sw4 hS1 hS1' hold hpos
  obtain ⟨r, hx, hro, hel, hBd⟩ := built_body hBu
  have c2 := hBt.c2
  have hb4 : w'.heap.size ≤ W4.heap.size := Nat.le_trans (by omega) hMB.below.size
  have hnxl : nx < 90000 := by omega
  have hrow4 : 0 < lenb → ∃ gb cc, pb = some ⟨gb, 0, none⟩ ∧ W4.heap[gb]? = some (.cells cc 4 (0, 0)) ∧ ∀ i, i < lenb → ∃ bv, cc[i]? = some (.bool bv) := fun h0 => by
    obtain ⟨gb, cc, r1, rl, r2, r3⟩ := hrowW h0
    exact ⟨gb, cc, r1, hMB.oth gb cc 4 (0, 0) r2 (by decide) (by decide) (by decide) (by omega), r3⟩
  have hscr := script25 w'.heap.size x W1.heap.size h nx lenb cb pb (nx : Int) σ W4 rfl ⟨σ, r, hR, Mut.refl _ _, hx, hro, hBd, by omega, Nat.le_refl _, Keeps.refl _ _ _ _⟩ hb4 hlb hnxl hrow4
  have hscrH := hide hscr; have hBWH := hide hBW; have hMBH := hide hMB
  clear hscr hBW hMB hR hx hro hel hBd hBt hrow4 hrowW hrow hown hBu hB1 hB1' hBb hcbH hclH hb8H
  go_upto_region 16 with (first | (go_at_call 25; refine hscrH.out.mono ?_; rintro e W5 ⟨lo, hi, rfl, hS5⟩))
  obtain ⟨σr, rr, s1, s2, s3, s4, s5, s6, s7, s8⟩ := hS5
  have hle := body_le s5
  have hb5 : w'.heap.size ≤ W5.heap.size := Nat.le_trans hb4 s2.size
  have hchk := check_any w'.heap.size x lo hi h (lo : Int) (hi : Int) (h : Int) rr σr W5 rfl rfl rfl s1 s3 s5 s6 (by omega) hle (by omega) (by omega) hb5
  have hfin : Hid (∀ W6, MutW w'.heap.size W5 W6 → Below w'.heap.size w' W6) := fun W6 hM6 => hBWH.out.trans (hMBH.out.below.trans (s2.below.trans hM6.below))
  have hchkH := hide hchk
  clear hchk s1 s2 s3 s4 s5 s6 s7 s8 hscrH hBWH hMBH c2
  go_wp2_with (first | (go_at_call 13; refine hchkH.out.mono ?_; rintro e W6 ⟨rfl, hM6⟩))
  go_ret
  exact ⟨rfl, hfin.out _ hM6⟩

end Go.Proofs.Qxb6001038a
