import Derived.Test.Qxb6001038aG3
namespace Go.Proofs.Qxb6001038a
open Go.RowKit
set_option linter.unusedVariables false

theorem insE' (v : Value) (n i vb base : Nat) (ii : Int) (xs vs : List Value) (w : World) (hii : ii = i) (hown : w.ownsRow base 75 4 v n xs) (hv : w.heap[vb]? = some (.cells vs.toArray 75 (0, 0))) (hvs : vs.length = 4)
    (hvb : v.ownBlock ≠ some vb) (hi : i ≤ n) (hn : n < 1000000) (h1 : ∀ u ∈ xs, u.oneCell' = true) (h1v : ∀ u ∈ vs, u.oneCell' = true) (hbase : base ≤ w.heap.size) :
    Calls Try.prog 43 #[v, .int .i64 ii, .slice (some ⟨vb, 0, none⟩) 1 1] w fun e w' =>
      ∃ g cap, e = .returned (.slice (some ⟨g, 0, none⟩) (n + 1) cap) ∧ w'.ownsRow base 75 4 (.slice (some ⟨g, 0, none⟩) (n + 1) cap) (n + 1) (xs.take (i * 4) ++ (vs ++ xs.drop (i * 4))) ∧
        w.grownBy w' v.ownBlock ∧ (v.ownBlock = some g ∨ g = w.heap.size) := by
  subst hii
  exact insE v n i vb base xs vs w hown hv hvs hvb hi hn h1 h1v hbase

section
variable {base : Nat} {W : World} {σ : Nat → Option Nd} {ph : Nat → Value × Value} {n x k : Nat} {r s : Nd}

/-- What 'x.entries = Delete(x.entries, j, j+1)' reads. -/
structure DelEF (base : Nat) (W : World) (σ : Nat → Option Nd) (ph : Nat → Value × Value) (x : Nat) (s : Nd) (j e1 g cap : Nat) : Prop where
  d0 : W.cell? ⟨x, 0, none⟩ = some (.slice (some ⟨g, 0, none⟩) (e1 + 1) cap)
  own : W.ownsRow base 75 4 (.slice (some ⟨g, 0, none⟩) (e1 + 1) cap) (e1 + 1) (encE s.es)
  far : ∀ w8, W.grownBy w8 (some g) → w8.frozen? ⟨x, 0, none⟩ = false ∧ w8.cell? ⟨x, 0, none⟩ = some (.slice (some ⟨g, 0, none⟩) (e1 + 1) cap)
  pe : (ph x).1 = .slice (some ⟨g, 0, none⟩) (e1 + 1) cap
  kc : ∀ m t, σ m = some t → ∀ w8 v, W.grownBy w8 (some g) → (w8.setCell ⟨x, 0, none⟩ v).cell? ⟨m, 1, none⟩ = W.cell? ⟨m, 1, none⟩
  fin : ∀ w8, W.grownBy w8 (some g) → w8.ownsRow base 75 4 (.slice (some ⟨g, 0, none⟩) e1 cap) e1 ((encE s.es).take (j * 4) ++ (encE s.es).drop (j * 4 + 4)) →
    Rep base (w8.setCell ⟨x, 0, none⟩ (.slice (some ⟨g, 0, none⟩) e1 cap)) (upd σ x { s with es := s.es.take j ++ s.es.drop (j + 1) }) ∧ Mut base W (w8.setCell ⟨x, 0, none⟩ (.slice (some ⟨g, 0, none⟩) e1 cap))

theorem delEF {j e1 : Nat} (hp : RepP base W σ ph) (hs : σ x = some s) (he : s.es.length = e1 + 1) (hj : j ≤ e1) (hb : base ≤ W.heap.size) : ∃ g cap, DelEF base W σ ph x s j e1 g cap := by
  obtain ⟨g, cap, hv, hl, hm, hg⟩ := ownsRow_pos (hp.nd x s hs).ents (by omega)
  have d0 := hp.c0 hs
  have ho := (hp.nd x s hs).ents
  rw [hv] at d0 ho
  rw [he] at d0 ho hv
  obtain ⟨_, c1, t1⟩ := ownsRow_tag (hp.nd x s hs).ents (b := g) (by rw [hv]; rfl)
  have nx := (hp.nd x s hs).node
  have hxg := tag_ne nx t1 (by decide)
  refine ⟨g, cap, d0, ho, fun w8 hg8 => ⟨(hg8.frozen_far ⟨x, 0, none⟩ (lt_of_heap nx) (by simp [hxg])).trans (hp.fz hs 0), hg8.cell d0 (by simp [hxg])⟩, hv, fun m t hm w8 v hg8 => kc_E hp hm hg8 t1 (by decide) v, fun w8 hg8 ho8 => ?_⟩
  refine fin_E hp hs hb (by rw [hv]; exact hg8) g e1 cap (s.es.take j ++ s.es.drop (j + 1)) (by simp; omega) ?_ (.inl (by rw [hv]; rfl))
  rw [encE_append, ← encE_take, ← encE_drop, Nat.add_mul, Nat.one_mul]
  exact ho8

structure DelCF (base : Nat) (W : World) (σ : Nat → Option Nd) (ph : Nat → Value × Value) (x : Nat) (s : Nd) (j e1 g cap : Nat) : Prop where
  d0 : W.cell? ⟨x, 1, none⟩ = some (.slice (some ⟨g, 0, none⟩) (e1 + 1) cap)
  own : W.ownsRow base 29 1 (.slice (some ⟨g, 0, none⟩) (e1 + 1) cap) (e1 + 1) (encC s.cs)
  far : ∀ w8, W.grownBy w8 (some g) → w8.frozen? ⟨x, 1, none⟩ = false ∧ w8.cell? ⟨x, 1, none⟩ = some (.slice (some ⟨g, 0, none⟩) (e1 + 1) cap)
  pe : (ph x).2 = .slice (some ⟨g, 0, none⟩) (e1 + 1) cap
  kc : ∀ m t, σ m = some t → m ≠ x → ∀ w8 v, W.grownBy w8 (some g) → (w8.setCell ⟨x, 1, none⟩ v).cell? ⟨m, 1, none⟩ = W.cell? ⟨m, 1, none⟩
  kcx : ∀ w8, W.grownBy w8 (some g) → KC x W (w8.setCell ⟨x, 1, none⟩ (.slice (some ⟨g, 0, none⟩) e1 cap))
  fin : ∀ w8, W.grownBy w8 (some g) → w8.ownsRow base 29 1 (.slice (some ⟨g, 0, none⟩) e1 cap) e1 ((encC s.cs).take j ++ (encC s.cs).drop (j + 1)) →
    Rep base (w8.setCell ⟨x, 1, none⟩ (.slice (some ⟨g, 0, none⟩) e1 cap)) (upd σ x { s with cs := s.cs.take j ++ s.cs.drop (j + 1) }) ∧ Mut base W (w8.setCell ⟨x, 1, none⟩ (.slice (some ⟨g, 0, none⟩) e1 cap))

theorem delCF {j e1 : Nat} (hp : RepP base W σ ph) (hs : σ x = some s) (he : s.cs.length = e1 + 1) (hj : j ≤ e1) (hpos : 0 < e1) (hb : base ≤ W.heap.size) : ∃ g cap, DelCF base W σ ph x s j e1 g cap := by
  obtain ⟨g, cap, hv, hl, hm, hg⟩ := ownsRow_pos (hp.nd x s hs).kids (by omega)
  have d0 := hp.c1 hs
  have ho := (hp.nd x s hs).kids
  rw [hv] at d0 ho
  rw [he] at d0 ho hv
  obtain ⟨_, c1, t1⟩ := ownsRow_tag (hp.nd x s hs).kids (b := g) (by rw [hv]; rfl)
  have nx := (hp.nd x s hs).node
  have hxg := tag_ne nx t1 (by decide)
  refine ⟨g, cap, d0, ho, fun w8 hg8 => ⟨(hg8.frozen_far ⟨x, 1, none⟩ (lt_of_heap nx) (by simp [hxg])).trans (hp.fz hs 1), hg8.cell d0 (by simp [hxg])⟩, hv, fun m t hm hmx w8 v hg8 => kc_C hp hm hmx hg8 t1 (by decide) v, fun w8 hg8 gc L cp hc => ?_, fun w8 hg8 ho8 => ?_⟩
  · rw [d0] at hc
    cases hc
    exact ⟨_, _, World.cell?_setCell_same w8 _ _ (hg8.cell d0 (by simp [hxg]))⟩
  refine fin_C hp hs hb (by rw [hv]; exact hg8) g e1 cap (s.cs.take j ++ s.cs.drop (j + 1)) hpos (by simp; omega) ?_ (.inl (by rw [hv]; rfl))
  rw [encC_append, ← encC_take, ← encC_drop]
  exact ho8

/-- The child at k: it is there, it is not the node itself. -/
theorem kid_node {h lo hi : Nat} (hr : σ n = some r) (hk : Kids (Sub σ h) r.cs r.es lo hi) (hk1 : k ≤ r.es.length) (hne : 0 < r.es.length) :
    ∃ s, σ (r.cs.getD k 0) = some s ∧ r.cs.getD k 0 ≠ n ∧ 15 ≤ s.es.length ∧ s.es.length ≤ 31 ∧ s.cs.length = (if h = 0 then 0 else s.es.length + 1) ∧ (∀ y ∈ s.es, lo ≤ y ∧ y < hi) := by
  obtain ⟨i1, i2, i3, i4, _⟩ := one_parts hr hk hk1 hne
  obtain ⟨s, h1, h2, h3, h4⟩ := sub_body i1
  have hm := (sub_mem i1 h1).2.2
  refine ⟨s, h1, fun e => ?_, h2, h3, body_cs h4, fun y hy => by have := hm y hy; omega⟩
  rw [e, hr] at h1
  cases h1
  obtain ⟨y, hy⟩ := mem_of_pos hne
  have := hm y hy
  have := i4 y hy
  omega
theorem kid_two {h lo hi : Nat} (hr : σ n = some r) (hk : Kids (Sub σ h) r.cs r.es lo hi) (hk1 : k < r.es.length) : r.cs.getD k 0 ≠ r.cs.getD (k + 1) 0 := fun e => by
  obtain ⟨a, b, _, s1, s2, _⟩ := two_parts (σ' := σ) hr hk hk1 (fun _ _ _ _ _ h => h)
  obtain ⟨s, h1, h2, _⟩ := sub_body s1
  obtain ⟨y, hy⟩ := mem_of_pos (l := s.es) (by omega)
  have m1 := (sub_mem s1 h1).2.2 y hy
  rw [e] at h1
  have m2 := (sub_mem s2 h1).2.2 y hy
  omega
end

/-- What grow(i) does. -/
def GrowPost (B : Option Nat) (base : Nat) (w : World) (σ : Nat → Option Nd) (n : Nat) (r : Nd) (h lo hi i : Nat) (e : Ending) (w' : World) : Prop :=
  ∃ (j : Nat) (r' s' : Nd) (σ' : Nat → Option Nd), e = .returned (.int .i64 j) ∧ Rep base w' σ' ∧ Mut base w w' ∧ σ' n = some r' ∧ r'.own = r.own ∧ Kids (Sub σ' h) r'.cs r'.es lo hi ∧ Keeps σ σ' r.own lo hi ∧
    (j = i ∨ j + 1 = i) ∧ j ≤ r'.es.length ∧ r.es.length ≤ r'.es.length + 1 ∧ r'.es.length ≤ r.es.length ∧ σ' (r'.cs.getD j 0) = some s' ∧ s'.own = r.own ∧ 16 ≤ s'.es.length ∧
    stK lo r'.es j ≤ stK lo r.es i ∧ enK hi r.es i ≤ enK hi r'.es j ∧ KC n w w' ∧ NB B w' σ'

/-- Where three nodes of the owner's, all within the range, alone are changed. -/
theorem keeps_three {σ σ' : Nat → Option Nd} {n c l o lo hi : Nat} {r s t : Nd} (hr : σ n = some r) (hs : σ c = some s) (ht : σ l = some t) (ro : r.own = o) (so : s.own = o) (to1 : t.own = o)
    (hf : ∀ x u, x ≠ n → x ≠ c → x ≠ l → σ x = some u → σ' x = some u) (mr : ∀ e ∈ r.es, lo ≤ e ∧ e < hi) (ms : ∀ e ∈ s.es, lo ≤ e ∧ e < hi) (mt : ∀ e ∈ t.es, lo ≤ e ∧ e < hi) : Keeps σ σ' o lo hi := by
  have key : ∀ u : Nd, u.own = o → (∀ e ∈ u.es, lo ≤ e ∧ e < hi) → ¬ (u.own ≠ o ∨ ∃ e ∈ u.es, e < lo ∨ hi ≤ e) := fun u h1 h2 h3 => by
    rcases h3 with h | ⟨y, hy, h⟩
    · exact h h1
    · have := h2 y hy; omega
  intro x u hx hc
  refine hf x u (fun e => ?_) (fun e => ?_) (fun e => ?_) hx
  · rw [e, hr] at hx; cases hx; exact key _ ro mr hc
  · rw [e, hs] at hx; cases hx; exact key _ so ms hc
  · rw [e, ht] at hx; cases hx; exact key _ to1 mt hc

end Go.Proofs.Qxb6001038a
