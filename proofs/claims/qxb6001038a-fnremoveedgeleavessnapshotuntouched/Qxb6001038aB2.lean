import Derived.Test.Qxb6001038aB1
import Derived.Deep.QuietTactic
import Derived.BigQuiet
namespace Go.Proofs.Qxb6001038a
open Go.RowKit
set_option linter.unusedVariables false
attribute [local go_sem ↓] Go.wp_at_zero Go.wp_at_succ

/-- The sizes: a slice of n bytes of its own, or none. -/
def Siz (w : World) (p : Option Addr) (n : Nat) : Prop :=
  0 < n → ∃ g zs, p = some ⟨g, 0, none⟩ ∧ w.heap[g]? = some (.cells zs 5 (0, 0)) ∧ ∀ j, j < n → ∃ z : Int, zs[j]? = some (.int .u8 z) ∧ 0 ≤ z ∧ z ≤ 255

/-- The builder in its block. -/
def BAt (w : World) (bb : Nat) (sv : Value) (pos nx : Nat) : Prop := w.heap[bb]? = some (.cells #[sv, .int .i64 pos, .int .i64 nx] 28 (0, 0))

theorem BAt.c0 {w : World} {bb : Nat} {sv : Value} {pos nx : Nat} (h : BAt w bb sv pos nx) : w.cell? ⟨bb, 0, none⟩ = some sv := by rw [cell_of_row w bb 0 _ 28 _ h]; rfl
theorem BAt.c1 {w : World} {bb : Nat} {sv : Value} {pos nx : Nat} (h : BAt w bb sv pos nx) : w.cell? ⟨bb, 1, none⟩ = some (.int .i64 pos) := by rw [cell_of_row w bb 1 _ 28 _ h]; rfl
theorem BAt.c2 {w : World} {bb : Nat} {sv : Value} {pos nx : Nat} (h : BAt w bb sv pos nx) : w.cell? ⟨bb, 2, none⟩ = some (.int .i64 nx) := by rw [cell_of_row w bb 2 _ 28 _ h]; rfl
theorem BAt.fz {w : World} {bb : Nat} {sv : Value} {pos nx : Nat} (h : BAt w bb sv pos nx) (j : Nat) : w.frozen? ⟨bb, j, none⟩ = false := frozen_of_row w bb j _ 28 h

set_option maxHeartbeats 1000000 in
set_option maxRecDepth 100000 in
theorem count_any (bb pos nx n cap : Nat) (p : Option Addr) (w : World) (hb : BAt w bb (.slice p n cap) pos nx) (hs : Siz w p n) (hpos : pos < 1000000) (hn : n < 1000000) :
    Calls Try.prog 28 #[.pointer (some ⟨bb, 0, none⟩)] w fun e w' => ∃ k : Nat, e = .returned (.int .i64 k) ∧ 15 ≤ k ∧ k ≤ 31 ∧ (∃ pos', pos' ≤ pos + 1 ∧ BAt w' bb (.slice p n cap) pos' nx) ∧ w.grownBy w' (some bb) := by
  have c0 := hb.c0; have c1 := hb.c1; have f1 := hb.fz 1
  have hbH := hide hb
  rcases Nat.eq_zero_or_pos n with h0 | h0
  · subst h0
    clear hb hs
    go_enter Try.func28, Try.ntmps28
    go_wp2
    go_ret
    exact ⟨15, rfl, by omega, by omega, ⟨pos, by omega, hbH.out⟩, grown_refl _ _⟩
  · obtain ⟨g, zs, rfl, hg, hz⟩ := hs h0
    obtain ⟨z, hz1, hz2, hz3⟩ := hz (pos % n) (Nat.mod_lt _ h0)
    have cz : w.cell? ⟨g, pos % n, none⟩ = some (.int .u8 z) := by rw [cell_of_row w g _ _ 5 _ hg]; exact hz1
    have e1 : ((pos : Int) % (n : Int)) = ((pos % n : Nat) : Int) := by omega
    have e2 : (0 : Int) ≤ (pos : Int) % (n : Int) := by omega
    have e3 : (pos : Int) % (n : Int) < (n : Int) := Int.emod_lt_of_pos _ (by omega)
    have e4 : ((n : Int) == 0) = false := by simp; omega
    obtain ⟨q, hq⟩ : ∃ q, q = pos % n := ⟨_, rfl⟩
    have hqn : q < n := by rw [hq]; exact Nat.mod_lt _ h0
    rw [← hq] at cz e1
    have hqH := hide hq
    clear hb hs hg hz hz1 hq
    go_enter Try.func28, Try.ntmps28
    go_wp2_with fail
    go_quiet (fail)
    go_wp2
    go_ret
    have hbd := hbH.out
    refine ⟨(15 + z % 17).toNat, ?_, by omega, by omega, ⟨pos + 1, by omega, ?_⟩, ?_⟩
    · have : ((15 + z % 17).toNat : Int) = 15 + z % 17 := by omega
      rw [this]
      rfl
    · have := heap_setCell_same (w.drewN nq) bb 1 _ 28 (.int .i64 ((pos : Int) + 1)) hbd
      unfold BAt
      rw [this]
      rfl
    · exact ⟨rfl, rfl, rfl, by simp [World.setCell], fun k _ hk => Below.heap_setCell (w.drewN nq) ⟨bb, 1, none⟩ _ k (fun e => hk (by rw [e]))⟩

/-- As 'Mut', and the builder's own block may have turned. -/
structure MutB (base bb : Nat) (w w' : World) : Prop where
  below : Below base w w'
  oth : ∀ (b : Nat) c t fz, w.heap[b]? = some (.cells c t fz) → t ≠ 64 → t ≠ 75 → t ≠ 29 → b ≠ bb → w'.heap[b]? = some (.cells c t fz)
theorem Mut.toB {base bb : Nat} {w w' : World} (h : Mut base w w') : MutB base bb w w' := ⟨h.below, fun b c t fz h1 h2 h3 h4 _ => h.oth b c t fz h1 h2 h3 h4⟩
theorem MutB.trans {base bb : Nat} {a b c : World} (h : MutB base bb a b) (k : MutB base bb b c) : MutB base bb a c :=
  ⟨h.below.trans k.below, fun x c t fz hx h1 h2 h3 h4 => k.oth x c t fz (h.oth x c t fz hx h1 h2 h3 h4) h1 h2 h3 h4⟩
theorem MutB.grown {base bb : Nat} {w w' : World} (h : w.grownBy w' (some bb)) (hb : base ≤ bb) (hbase : base ≤ w.heap.size) : MutB base bb w w' :=
  ⟨(Below.refl _ _).grown h hbase (fun k hk => by cases hk; exact hb), fun b c t fz h1 _ _ _ h2 => by rw [h.block b (lt_of_heap h1) (by simp [h2])]; exact h1⟩
theorem Rep.grownB {base bb : Nat} {w w' : World} {σ : Nat → Option Nd} {c : Array Value} (h : Rep base w σ) (hg : w.grownBy w' (some bb)) (hb : w.heap[bb]? = some (.cells c 28 (0, 0))) : Rep base w' σ :=
  h.keep fun b c' t fz hc ht => by
    rw [hg.block b (lt_of_heap hc) (fun e => ?_)]
    · exact hc
    · cases e
      rw [hb] at hc
      cases hc
      simp at ht
theorem Siz.keep {w w' : World} {p : Option Addr} {n : Nat} (h : Siz w p n) (hk : ∀ (b : Nat) c, w.heap[b]? = some (.cells c 5 (0, 0)) → w'.heap[b]? = some (.cells c 5 (0, 0))) : Siz w' p n := fun h0 => by
  obtain ⟨g, zs, h1, h2, h3⟩ := h h0
  exact ⟨g, zs, h1, hk g zs h2, h3⟩

set_option maxHeartbeats 1000000 in
set_option maxRecDepth 100000 in
theorem put_any (base bb pos k n : Nat) (sv : Value) (r : Nd) (σ : Nat → Option Nd) (w : World) (h : Rep base w σ) (hr : σ n = some r) (hn : r.es.length < 100) (hbase : base ≤ w.heap.size) (hbb : base ≤ bb) (hb : BAt w bb sv pos k) (hk : k < 999999) :
    Calls Try.prog 30 #[.pointer (some ⟨bb, 0, none⟩), .pointer (some ⟨n, 0, none⟩)] w fun e w' => e = .returned (.tuple #[]) ∧ Rep base w' (upd σ n { r with es := r.es ++ [k] }) ∧ BAt w' bb sv pos (k + 1) ∧ MutB base bb w w' := by
  have c2 := hb.c2
  have hlt := lt_of_heap hb
  have hwr : IntKind.u64.wrap (k : Int) = k := by rw [IntKind.wrap_u64]; omega
  have hRH := hide h; have hbH := hide hb
  clear h hb
  go_enter Try.func30, Try.ntmps30
  go_upto_region 0 with fail
  go_cut [22] (fun v w' => Rep base w' (upd σ n { r with es := r.es ++ [k] }) ∧ BAt w' bb sv pos k ∧ Mut base w w')
  case first =>
    go_region_held3 (fun w' => w'.cell? ⟨bb, 2, none⟩ = some (.int .i64 k))
      (first | go_keep | exact (World.cell?_of_block (a := ⟨bb, 2, none⟩) (hbel.block bb (by exact hlt))).trans c2 | exact hB.c2)
      (first
        | (go_at_call 33; refine (pad6_any k _ (by omega) (by omega)).mono ?_; rintro e w1 ⟨rfl, hbel⟩)
        | (go_at_call 39; refine (addEntry_any base n k _ r σ _ (Rep.below (w := w.drew) (Rep.drew hRH.out) hbel (Nat.le_refl _)) hr hn (Nat.le_trans hbase hbel.size) (by first | rfl | omega)).mono ?_; rintro e w2 ⟨rfl, hR2, hM2⟩; have hB : BAt w2 bb sv pos k := hM2.oth bb _ _ _ ((hbel.block bb (by exact hlt)).trans hbH.out) (by decide) (by decide) (by decide)))
    go_wp2_with fail
    go_meet
    case rel =>
      have hb' : Below w.heap.size w w1 := ⟨hbel.os, hbel.tape, hbel.output, hbel.size, hbel.block⟩
      refine ⟨hR2, hB, Mut.trans ⟨hb'.mono hbase, fun b c t fz hc _ _ _ => ?_⟩ hM2⟩
      rw [hb'.block b (lt_of_heap hc)]
      exact hc
  case rest =>
    obtain ⟨hR, hB, hM⟩ := hcut
    have d2 := hB.c2; have f2 := hB.fz 2
    have hRH := hide hR; have hBH := hide hB; have hMH := hide hM
    clear hR hB hM
    go_wp2
    go_end0
    go_light
    have hg : wc.grownBy (wc.setCell ⟨bb, 2, none⟩ (.int .i64 ((k : Int) + 1))) (some bb) := ⟨rfl, rfl, rfl, by simp [World.setCell], fun k _ hk => Below.heap_setCell wc ⟨bb, 2, none⟩ _ k (fun e => hk (by rw [e]))⟩
    refine ⟨rfl, Rep.grownB hRH.out hg hBH.out, ?_, hMH.out.toB.trans (MutB.grown hg hbb (Nat.le_trans hbase hMH.out.size))⟩
    have := heap_setCell_same wc bb 2 _ 28 (.int .i64 ((k : Int) + 1)) hBH.out
    unfold BAt
    rw [this]
    rfl

end Go.Proofs.Qxb6001038a
