import Derived.Test.Qxb6001038aR2
import Derived.Test.Qxb6001038aF2
import Derived.BigQuiet
import Derived.OwnWalk
namespace Go.Proofs.Qxb6001038a
open Go.RowKit
set_option linter.unusedVariables false
set_option linter.unusedSimpArgs false
attribute [local go_sem ↓] Go.wp_at_zero Go.wp_at_succ

theorem removeEdge_any (base n o h lo hi : Nat) (last : Bool) (r : Nd) (σ : Nat → Option Nd) (w : World) (hR : Rep base w σ) (hr : σ n = some r) (ho : r.own = o) (hB : Body σ h r lo hi) (h16 : 16 ≤ r.es.length) (h31 : r.es.length ≤ 31) (hbase : base ≤ w.heap.size) :
    Calls Try.prog 49 #[.pointer (some ⟨n, 0, none⟩), .bool last] w fun e w' => e = .returned (entV (if last then hi - 1 else lo)) ∧ ∃ σ', Rep base w' σ' ∧ Mut base w w' ∧ EdgeFin σ σ' n o h lo hi r.es.length last := by
  cases last
  · exact removeEdge_F base n o h lo hi r σ w hR hr ho hB h16 h31 hbase
  · exact removeEdge_L base n o h lo hi r σ w hR hr ho hB h16 h31 hbase

set_option maxHeartbeats 1000000 in
/-- ZZRemoveEdge. -/
theorem remove38 (base n o h lo hi : Nat) (last : Bool) (r : Nd) (σ : Nat → Option Nd) (w : World) (hR : Rep base w σ) (hr : σ n = some r) (ho : r.own = o) (hB : Body σ h r lo hi) (h16 : 16 ≤ r.es.length) (h31 : r.es.length ≤ 31) (hbase : base ≤ w.heap.size) :
    Calls Try.prog 38 #[.pointer (some ⟨n, 0, none⟩), .bool last] w fun e w' => e = .returned (.tuple #[.string (p6 ((if last then hi - 1 else lo : Nat) : Nat)), .int .u64 ((if last then hi - 1 else lo : Nat) : Nat)]) ∧ ∃ σ', Rep base w' σ' ∧ Mut base w w' ∧ EdgeFin σ σ' n o h lo hi r.es.length last := by
  have hc := removeEdge_any base n o h lo hi last r σ w hR hr ho hB h16 h31 hbase
  obtain ⟨k, hk⟩ : ∃ k, k = (if last then hi - 1 else lo) := ⟨_, rfl⟩
  obtain ⟨L, hL⟩ : ∃ L, L = r.es.length := ⟨_, rfl⟩
  rw [← hk, ← hL] at hc
  rw [← hk, ← hL]
  unfold entV at hc
  have hcH := hide hc
  clear hc hR hr ho hB h16 h31 hk hL
  go_enter Try.func38, Try.ntmps38
  go_upto_region 2 with (go_at_call 49; refine hcH.out.mono ?_; rintro e w1 ⟨rfl, σ', hR1, hM1, hE1⟩)
  have hR1H := hide hR1; have hM1H := hide hM1
  clear hR1 hM1
  go_quiet (fail)
  go_wp2_with fail
  go_ret2
  have hb1 : base ≤ w1.heap.size := Nat.le_trans hbase hM1H.out.size
  exact ⟨rfl, σ', (hR1H.out.alloc _).keep (fun _ _ _ _ hc _ => hc), hM1H.out.trans ((Mut.alloc _ _ hb1).trans ⟨⟨rfl, rfl, rfl, Nat.le_refl _, fun _ _ => rfl⟩, fun _ _ _ _ hc _ _ _ => hc⟩), hE1⟩

theorem body_mem {σ : Nat → Option Nd} {h lo hi : Nat} {r : Nd} (hb : Body σ h r lo hi) : ∀ e ∈ r.es, lo ≤ e ∧ e < hi := by
  cases h with
  | zero =>
    obtain ⟨_, h2, h3⟩ := hb
    intro e he
    rw [h2] at he
    simp at he
    omega
  | succ h => exact kids_mem (sub_le σ h) hb

/-- The tree at the script's head: it holds lo .. hi - 1. -/
def ScrAt (base : Nat) (w : World) (σ : Nat → Option Nd) (root o h total lo hi : Nat) (wr : World) : Prop :=
  ∃ σr rr, Rep base wr σr ∧ Mut base w wr ∧ σr root = some rr ∧ rr.own = o ∧ Body σr h rr lo hi ∧ rr.es.length ≤ 31 ∧ hi ≤ total ∧ Keeps σ σr o 0 total

theorem scr_step {base : Nat} {w wr W2 W3 : World} {σ σr σ' : Nat → Option Nd} {root o h total lo hi : Nat} {rr : Nd} {last : Bool} (hM : Mut base w wr) (hht : hi ≤ total) (hK : Keeps σ σr o 0 total) (hR2 : Rep base W2 σ') (hM2 : Mut base wr W2) (hE : EdgeFin σr σ' root o h lo hi rr.es.length last) (hB : Below W2.heap.size W2 W3) (hb : base ≤ W2.heap.size) :
    ScrAt base w σ root o h total (lo1 last lo) (hi1 last hi) W3 := by
  obtain ⟨r', e1, e2, e3, e4, e5, e6⟩ := hE
  refine ⟨σ', r', hR2.keep (fun b c t fz hc _ => by rw [hB.block b (lt_of_heap hc)]; exact hc), hM.trans (hM2.trans ⟨hB.mono hb, fun b c t fz hc _ _ _ => by rw [hB.block b (lt_of_heap hc)]; exact hc⟩), e1, e2, e3, e5, ?_, hK.trans (e6.widen (Nat.zero_le _) hht)⟩
  unfold hi1
  split <;> omega

set_option maxHeartbeats 4000000 in
set_option maxRecDepth 100000 in
/-- removeScript. -/
theorem script25 (base root o h total len cap : Nat) (p : Option Addr) (tt : Int) (σ : Nat → Option Nd) (w : World) (htt : tt = total) (hS : ScrAt base w σ root o h total 0 total w) (hbase : base ≤ w.heap.size) (hlen : len ≤ 65536) (htot : total < 90000)
    (hrow : 0 < len → ∃ gb c, p = some ⟨gb, 0, none⟩ ∧ w.heap[gb]? = some (.cells c 4 (0, 0)) ∧ ∀ i, i < len → ∃ bv, c[i]? = some (.bool bv)) :
    Calls Try.prog 25 #[.pointer (some ⟨root, 0, none⟩), .slice p len cap, .int .i64 tt] w fun e w' => ∃ lo hi : Nat, e = .returned (.tuple #[.int .i64 lo, .int .i64 hi, .bool true]) ∧ ScrAt base w σ root o h total lo hi w' := by
  subst htt
  have hSH := hide hS; have hrowH := hide hrow
  clear hS hrow
  go_enter Try.func25, Try.ntmps25
  go_wp2_with fail
  go_loopw [9, 10, 11] (fun v9 v10 v11 wr => ∃ lo hi s : Nat, s ≤ len ∧ v9 = .int .i64 lo ∧ v10 = .int .i64 hi ∧ v11 = .int .i64 s ∧ Hid (ScrAt base w σ root o h total lo hi wr)) (fun v9 v10 v11 _ => len - (intOf v11).toNat)
  case atStart => exact ⟨0, total, 0, by omega, rfl, rfl, rfl, hSH⟩
  case round =>
    obtain ⟨lo, hi, s, hsl, rfl, rfl, rfl, hI⟩ := hrel
    by_cases hlt : s < len
    · obtain ⟨gb, cb, rfl, hgb, hcb⟩ := hrowH.out (by omega)
      obtain ⟨bv, hbv⟩ := hcb s hlt
      obtain ⟨σr, rr, hR, hM, hr, ho, hB, h31, hht, hK⟩ := hI.out
      have hgr := hM.oth gb cb 4 (0, 0) hgb (by decide) (by decide) (by decide)
      have cb1 : wr.cell? ⟨gb, s, none⟩ = some (.bool bv) := by rw [cell_of_row wr gb s cb 4 _ hgr]; exact hbv
      have hbr : base ≤ wr.heap.size := Nat.le_trans hbase hM.size
      obtain ⟨l, hl⟩ : ∃ l, rr.es.length = l := ⟨_, rfl⟩
      have hnum := num_rep base root l rr σr wr hR hr hl
      have hnumH := hide hnum
      have hlt' : (s : Int) < (len : Int) := by omega
      clear hnum hI
      by_cases hl15 : l ≤ 15
      · have hl15' : (l : Int) ≤ 15 := by omega
        have hfin := hide (show ScrAt base w σ root o h total lo hi wr from ⟨σr, rr, hR, hM, hr, ho, hB, h31, hht, hK⟩)
        clear hR hM hr ho hB hK hgr hl
        go_wp2_with (first | (go_at_call 14; refine hnumH.out.mono ?_; rintro e wr ⟨rfl, rfl⟩))
        go_ret3
        exact ⟨lo, hi, rfl, hfin.out⟩
      · have hl15' : ¬ ((l : Int) ≤ 15) := by omega
        obtain ⟨y, hy⟩ := mem_of_pos (l := rr.es) (by omega)
        have hlh := body_mem hB y hy
        have hrm := remove38 base root o h lo hi bv rr σr wr hR hr ho hB (by omega) h31 hbr
        have hkeep : Hid (∀ W2 W3, Mut base wr W2 → Below W2.heap.size W2 W3 → W2.cell? ⟨gb, s, none⟩ = some (.bool bv) ∧ W3.cell? ⟨gb, s, none⟩ = some (.bool bv)) := fun W2 W3 h2 h3 => by
          have g2 := h2.oth gb cb 4 (0, 0) hgr (by decide) (by decide) (by decide)
          have g3 : W3.heap[gb]? = some (.cells cb 4 (0, 0)) := by rw [h3.block gb (lt_of_heap g2)]; exact g2
          exact ⟨by rw [cell_of_row W2 gb s cb 4 _ g2]; exact hbv, by rw [cell_of_row W3 gb s cb 4 _ g3]; exact hbv⟩
        have hrmH := hide hrm; have hMH := hide hM; have hKH := hide hK
        obtain ⟨LL, hLL⟩ : ∃ LL, LL = rr.es.length := ⟨_, rfl⟩
        clear hrm hM hK hR hr ho hB hgr hl hy hbv hgb hcb
        cases bv
        · have hw2 : IntKind.u64.wrap (lo : Int) = lo := by rw [IntKind.wrap_u64]; omega
          have hw3 : IntKind.i64.wrap ((lo : Int) + 1) = (lo : Int) + 1 := by rw [IntKind.wrap_i64]; omega
          simp only [Bool.false_eq_true, if_false] at hrmH
          have hpad : Hid (∀ W, Calls Try.prog 33 #[.int .i64 (lo : Int)] W fun e w' => e = .returned (.string (p6 lo)) ∧ Below W.heap.size W w') := fun W => pad6_any _ W (by omega) (by omega)
          go_wp2_with (first
            | (go_at_call 14; refine hnumH.out.mono ?_; rintro e wr ⟨rfl, rfl⟩)
            | (go_at_call 38; refine hrmH.out.mono ?_; rintro e W2 ⟨rfl, σ', hR2, hM2, hE2⟩; have cb2 := (hkeep.out W2 W2 hM2 (Below.refl _ _)).1)
            | (go_at_call 33; refine (hpad.out _).mono ?_; rintro e W3 ⟨rfl, hB3⟩; have cb3 := (hkeep.out W2 W3 hM2 hB3).2))
          go_roundw
          case rel =>
            have hb2 : base ≤ W2.heap.size := Nat.le_trans hbr hM2.size
            exact ⟨lo + 1, hi, s + 1, by omega, by go_num, rfl, by go_num, hide (scr_step (last := false) hMH.out hht hKH.out hR2 hM2 hE2 hB3 hb2)⟩
          case measure => simp [intOf]; omega
        · obtain ⟨hh, rfl⟩ : ∃ hh, hi = hh + 1 := ⟨hi - 1, by omega⟩
          have hw1 : IntKind.i64.wrap ((hh : Int) + 1 - 1) = hh := by rw [show ((hh : Int) + 1 - 1) = hh by omega, IntKind.wrap_i64]; omega
          have hw2 : IntKind.u64.wrap (hh : Int) = hh := by rw [IntKind.wrap_u64]; omega
          have hw3 : IntKind.i64.wrap (hh : Int) = hh := by rw [IntKind.wrap_i64]; omega
          simp only [if_true, Nat.add_sub_cancel] at hrmH
          have hpad : Hid (∀ W, Calls Try.prog 33 #[.int .i64 (hh : Int)] W fun e w' => e = .returned (.string (p6 hh)) ∧ Below W.heap.size W w') := fun W => pad6_any _ W (by omega) (by omega)
          go_wp2_with (first
            | (go_at_call 14; refine hnumH.out.mono ?_; rintro e wr ⟨rfl, rfl⟩)
            | (go_at_call 38; refine hrmH.out.mono ?_; rintro e W2 ⟨rfl, σ', hR2, hM2, hE2⟩; have cb2 := (hkeep.out W2 W2 hM2 (Below.refl _ _)).1)
            | (go_at_call 33; refine (hpad.out _).mono ?_; rintro e W3 ⟨rfl, hB3⟩; have cb3 := (hkeep.out W2 W3 hM2 hB3).2))
          go_roundw
          case rel =>
            have hb2 : base ≤ W2.heap.size := Nat.le_trans hbr hM2.size
            exact ⟨lo, hh, s + 1, by omega, rfl, by go_num, by go_num, hide (scr_step (last := true) hMH.out hht hKH.out hR2 hM2 hE2 hB3 hb2)⟩
          case measure => simp [intOf]; omega
    · obtain rfl : s = len := by omega
      go_wp2
      go_ret3
      exact ⟨lo, hi, rfl, hI.out⟩

end Go.Proofs.Qxb6001038a
