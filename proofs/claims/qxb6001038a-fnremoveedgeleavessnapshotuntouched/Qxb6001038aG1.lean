import Derived.Test.Qxb6001038aN2
import Derived.Test.Qxb6001038aTr5
namespace Go.Proofs.Qxb6001038a
open Go.RowKit
set_option linter.unusedVariables false
set_option linter.unusedSimpArgs false
attribute [local go_sem ↓] Go.wp_at_zero Go.wp_at_succ

/-- What another owns, and what has an entry outside the range, is left alone. -/
def Keeps (σ σ' : Nat → Option Nd) (o lo hi : Nat) : Prop := ∀ x t, σ x = some t → (t.own ≠ o ∨ ∃ e ∈ t.es, e < lo ∨ hi ≤ e) → σ' x = some t
theorem Keeps.refl (σ : Nat → Option Nd) (o lo hi : Nat) : Keeps σ σ o lo hi := fun _ _ h _ => h
theorem Keeps.trans {σ σ' σ'' : Nat → Option Nd} {o lo hi : Nat} (h : Keeps σ σ' o lo hi) (k : Keeps σ' σ'' o lo hi) : Keeps σ σ'' o lo hi := fun x t hx hc => k x t (h x t hx hc) hc

theorem cell_off {w : World} {a : Addr} {n j : Nat} {v u : Value} (h : n ≠ a.block) (hc : w.cell? ⟨n, j, none⟩ = some v) : (w.setCell a u).cell? ⟨n, j, none⟩ = some v :=
  (World.cell?_of_block (a := ⟨n, j, none⟩) (Below.heap_setCell w a u n h)).trans hc

/-- The node's children lie in the block in which they lay. -/
def KC (n : Nat) (w w' : World) : Prop := ∀ gc L cap, w.cell? ⟨n, 1, none⟩ = some (.slice (some ⟨gc, 0, none⟩) L cap) → ∃ L' cap', w'.cell? ⟨n, 1, none⟩ = some (.slice (some ⟨gc, 0, none⟩) L' cap')
theorem KC.of_eq {n : Nat} {w w' : World} (h : w'.cell? ⟨n, 1, none⟩ = w.cell? ⟨n, 1, none⟩) : KC n w w' := fun gc L cap hc => ⟨L, cap, h.trans hc⟩
theorem KC.trans {n : Nat} {a b c : World} (h : KC n a b) (k : KC n b c) : KC n a c := fun gc L cap hc => by
  obtain ⟨L', cap', h1⟩ := h gc L cap hc
  exact k gc L' cap' h1
structure MutC (base n : Nat) (w w' : World) : Prop where
  mm : Mut base w w'
  kc : KC n w w'
theorem MutC.refl (base n : Nat) (w : World) : MutC base n w w := ⟨Mut.refl _ _, KC.of_eq rfl⟩
theorem MutC.trans {base n : Nat} {a b c : World} (h : MutC base n a b) (k : MutC base n b c) : MutC base n a c := ⟨h.mm.trans k.mm, h.kc.trans k.kc⟩
theorem MutC.size {base n : Nat} {w w' : World} (h : MutC base n w w') : w.heap.size ≤ w'.heap.size := h.mm.size

theorem encC_set (cs : List Nat) (k c : Nat) : (encC cs).set k (.pointer (some ⟨c, 0, none⟩)) = encC (cs.set k c) := by
  unfold encC
  rw [List.map_set]

/-- n.children[k] = c', a node that has just been made, or that was there. -/
theorem cow_rep {base : Nat} {w w1 : World} {σ : Nat → Option Nd} {ph ph1 : Nat → Value × Value} {n k c' gc capc : Nat} {r s' : Nd} (h : RepP base w σ ph) (hr : σ n = some r) (hvc : (ph n).2 = .slice (some ⟨gc, 0, none⟩) r.cs.length capc)
    (hk : k < r.cs.length) (hg : w.grownBy w1 none) (h1 : RepP base w1 (upd σ c' s') ph1) (hph : ∀ m, m ≠ c' → ph1 m = ph m) (hcn : c' ≠ n) (hbase : base ≤ w.heap.size) :
    Rep base (w1.setCell ⟨gc, k, none⟩ (.pointer (some ⟨c', 0, none⟩))) (upd (upd σ c' s') n { r with cs := r.cs.set k c' }) ∧ Mut base w (w1.setCell ⟨gc, k, none⟩ (.pointer (some ⟨c', 0, none⟩))) := by
  have hr1 : upd σ c' s' n = some r := by rw [upd_other _ _ _ (Ne.symm hcn)]; exact hr
  have hvc1 : (ph1 n).2 = .slice (some ⟨gc, 0, none⟩) r.cs.length capc := by rw [hph n (Ne.symm hcn)]; exact hvc
  have hn := h1.nd n r hr1
  have ho := hn.kids
  rw [hvc1] at ho
  obtain ⟨o1, o2⟩ := World.ownsRow.stored ho k (.pointer (some ⟨c', 0, none⟩))
  rw [encC_set] at o1
  have hl : (r.cs.set k c').length = r.cs.length := by simp
  constructor
  · refine ⟨_, h1.rowC hr1 (w1 := w1.setCell ⟨gc, k, none⟩ (.pointer (some ⟨c', 0, none⟩))) (by rw [hvc1]; exact o2) (r.cs.set k c') (by rw [hvc1, hl]; exact o1) (fun e => ?_)⟩
    rw [e] at hl
    simp at hl
    omega
  · obtain ⟨hb, cc, hcc⟩ := ownsRow_tag hn.kids (b := gc) (by rw [hvc1]; rfl)
    exact (Mut.grown hg hbase (fun k hk => by cases hk)).trans (Mut.setCell _ (by exact hb) (c := cc) (by exact hcc) (.inr (.inr rfl)))

theorem keep_cow {σ : Nat → Option Nd} {n c c' lo hi : Nat} {r s r1 : Nd} (hr : σ n = some r) (hs : σ c = some s) (hc : (c' = c ∧ s.own = r.own) ∨ σ c' = none) (hcn : c' ≠ n) (hm : ∀ e ∈ r.es, lo ≤ e ∧ e < hi) :
    (∀ x t, x ≠ n → σ x = some t → upd (upd σ c' { s with own := r.own }) n r1 x = some t) ∧ Keeps σ (upd (upd σ c' { s with own := r.own }) n r1) r.own lo hi := by
  have key : ∀ x t, x ≠ n → σ x = some t → upd (upd σ c' { s with own := r.own }) n r1 x = some t := fun x t hx hxt => by
    rw [upd_other _ _ _ hx]
    by_cases e : x = c'
    · rcases hc with ⟨h1, h2⟩ | h1
      · rw [e, upd_same]
        rw [e, h1, hs] at hxt
        cases hxt
        rw [← h2]
      · rw [e, h1] at hxt
        cases hxt
    · rw [upd_other _ _ _ e]; exact hxt
  refine ⟨key, fun x t hx hcond => ?_⟩
  by_cases e : x = n
  · rw [e, hr] at hx
    cases hx
    rcases hcond with h | ⟨y, hy, h⟩
    · exact absurd rfl h
    · have := hm y hy
      omega
  · exact key x t e hx


/-- What the statement 'n.children[k] = n.own.writable(n.children[k])' reads. -/
structure CowF (base : Nat) (W : World) (σ : Nat → Option Nd) (ph : Nat → Value × Value) (n : Nat) (r : Nd) (c k gc capc L : Nat) : Prop where
  c1 : W.cell? ⟨n, 1, none⟩ = some (.slice (some ⟨gc, 0, none⟩) L capc)
  c2 : W.cell? ⟨n, 2, none⟩ = some (.pointer (some ⟨r.own, 0, none⟩))
  k0 : W.cell? ⟨gc, k, none⟩ = some (.pointer (some ⟨c, 0, none⟩))
  gn : n ≠ gc
  lt : k < L
  far : ∀ w1, W.grownBy w1 none → w1.frozen? ⟨gc, k, none⟩ = false ∧ w1.cell? ⟨n, 1, none⟩ = some (.slice (some ⟨gc, 0, none⟩) L capc) ∧ w1.cell? ⟨n, 2, none⟩ = some (.pointer (some ⟨r.own, 0, none⟩)) ∧ w1.cell? ⟨gc, k, none⟩ = some (.pointer (some ⟨c, 0, none⟩))
  kc : ∀ w1 v, W.grownBy w1 none → (w1.setCell ⟨gc, k, none⟩ v).cell? ⟨n, 1, none⟩ = W.cell? ⟨n, 1, none⟩
  no : W.heap[r.own]? = some (.cells #[.int .u8 0] 47 (0, 0))
  vc : (ph n).2 = .slice (some ⟨gc, 0, none⟩) r.cs.length capc
  pd : RepP base W.drew σ ph
  fin : ∀ w1 c' s' ph1, W.grownBy w1 none → RepP base w1 (upd σ c' s') ph1 → (∀ m, m ≠ c' → ph1 m = ph m) → c' ≠ n → base ≤ W.heap.size →
    Rep base (w1.setCell ⟨gc, k, none⟩ (.pointer (some ⟨c', 0, none⟩))) (upd (upd σ c' s') n { r with cs := r.cs.set k c' }) ∧ Mut base W (w1.setCell ⟨gc, k, none⟩ (.pointer (some ⟨c', 0, none⟩)))

theorem cowF {base : Nat} {W : World} {σ : Nat → Option Nd} {ph : Nat → Value × Value} {n : Nat} {r : Nd} {c k L : Nat} (hp : RepP base W σ ph) (hr : σ n = some r) (hk : k < r.cs.length) (hc : r.cs.getD k 0 = c) (hL : L = r.cs.length) :
    ∃ gc capc, CowF base W σ ph n r c k gc capc L := by
  subst hL
  obtain ⟨gc, capc, hvc, hlc, hlm, hgcl⟩ := ownsRow_pos (hp.nd n r hr).kids (by omega)
  have k0 := kid_cell hp hr hvc k hk
  have c1 := hp.c1 hr
  have c2 := hp.c2 hr
  rw [hvc] at c1
  rw [hc] at k0
  have hgn : n ≠ gc := fun e => by
    obtain ⟨_, cc, hc⟩ := ownsRow_tag (hp.nd n r hr).kids (b := gc) (by rw [hvc]; rfl)
    rw [← e, (hp.nd n r hr).node] at hc
    cases hc
  refine ⟨gc, capc, c1, c2, k0, hgn, hk, fun w1 hg => ?_, fun w1 v hg => (cell_off hgn (hg.cell c1 (by simp))).trans c1.symm, (hp.nd n r hr).ownr, hvc, hp.keep fun _ _ _ _ hc _ => hc, fun w1 c' s' ph1 hg h1 hph hcn hb => cow_rep hp hr hvc hk hg h1 hph hcn hb⟩
  have ho := (hp.nd n r hr).kids
  rw [hvc] at ho
  exact ⟨(hg.frozen_far ⟨gc, k, none⟩ hgcl (by simp)).trans (ho.frozenAt k), hg.cell c1 (by simp), hg.cell c2 (by simp), hg.cell k0 (by simp)⟩

/-- The state behind it. -/
theorem cow_next {σ : Nat → Option Nd} {n c c' k h lo hi : Nat} {r s : Nd} (hr : σ n = some r) (hk : Kids (Sub σ h) r.cs r.es lo hi) (hk1 : k ≤ r.es.length) (hne : 0 < r.es.length) (hc : r.cs.getD k 0 = c) (hs : σ c = some s) (hor : (c' = c ∧ s.own = r.own) ∨ σ c' = none) (hcn : c' ≠ n) :
    ∃ σ' r' s', σ' = upd (upd σ c' { s with own := r.own }) n { r with cs := r.cs.set k c' } ∧ r' = { r with cs := r.cs.set k c' } ∧ s' = { s with own := r.own } ∧ σ' n = some r' ∧ σ' c' = some s' ∧ Kids (Sub σ' h) r'.cs r'.es lo hi ∧ Keeps σ σ' r.own lo hi ∧ r'.es = r.es ∧ r'.own = r.own ∧ r'.cs.length = r.cs.length ∧ r'.cs.getD k 0 = c' ∧ s'.es = s.es ∧ s'.cs = s.cs ∧ s'.own = r.own ∧
      (∀ j, j ≠ k → r'.cs.getD j 0 = r.cs.getD j 0) ∧ (∀ x t, x ≠ n → σ x = some t → σ' x = some t) := by
  have hm := kids_mem (sub_le σ h) hk
  have hlen := kids_len hk
  obtain ⟨k1, k2⟩ := keep_cow (r1 := { r with cs := r.cs.set k c' }) hr hs hor hcn hm
  have hc1 : upd (upd σ c' { s with own := r.own }) n { r with cs := r.cs.set k c' } c' = some { s with own := r.own } := by rw [upd_other _ _ _ hcn, upd_same]
  refine ⟨_, _, _, rfl, rfl, rfl, upd_same _ _ _, hc1, cow_law hr hk hk1 hne (by rw [hc]; exact hs) k1 hc1, k2, rfl, rfl, by simp, ?_, rfl, rfl, rfl, fun j hj => ?_, k1⟩
  · simp [List.getD, show k < r.cs.length by omega]
  · simp [List.getD, List.getElem?_set, Ne.symm hj]

end Go.Proofs.Qxb6001038a
