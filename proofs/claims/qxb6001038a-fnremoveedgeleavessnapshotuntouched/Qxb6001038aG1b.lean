import Derived.Test.Qxb6001038aG1
namespace Go.Proofs.Qxb6001038a
open Go.RowKit
set_option linter.unusedVariables false

/-- The block B (a result's cell, say) is there, and is no node's row of entries. -/
def NB (B : Option Nat) (w : World) (σ : Nat → Option Nd) : Prop :=
  ∀ b, B = some b → (∃ c, w.heap[b]? = some (.cells c 75 (0, 0)) ∧ c.size = 4) ∧ ∀ m t v, σ m = some t → w.cell? ⟨m, 0, none⟩ = some v → v.ownBlock ≠ some b
theorem NB.none (w : World) (σ : Nat → Option Nd) : NB none w σ := fun b h => by cases h

section
variable {B : Option Nat} {base : Nat} {W w8 : World} {σ : Nat → Option Nd} {ph : Nat → Value × Value} {n x : Nat} {r s s' : Nd}

theorem heap_ne {a b : Nat} {c c' : Array Value} {t t' : TypeId} {f f' : Nat × Nat} (h : W.heap[a]? = some (.cells c t f)) (h' : W.heap[b]? = some (.cells c' t' f')) (ht : t ≠ t') : a ≠ b := fun e => by
  rw [e, h'] at h
  cases h
  exact ht rfl
theorem set_heap {w : World} {a : Addr} {v : Value} {b : Nat} (h : b ≠ a.block) : (w.setCell a v).heap[b]? = w.heap[b]? := Below.heap_setCell w a v b h

/-- x.entries = .. -/
theorem nb_E {gs E caps g8 len cap8 : Nat} (hp : RepP base W σ ph) (hN : NB B W σ) (hs : σ x = some s) (hd : W.cell? ⟨x, 0, none⟩ = some (.slice (some ⟨gs, 0, none⟩) E caps)) (hg : W.grownBy w8 (some gs)) (hat : gs = g8 ∨ W.heap.size ≤ g8) :
    NB B (w8.setCell ⟨x, 0, none⟩ (.slice (some ⟨g8, 0, none⟩) len cap8)) (upd σ x s') := fun b hb => by
  obtain ⟨⟨c, hc, hc4⟩, hno⟩ := hN b hb
  have hgb : gs ≠ b := fun e => hno x s _ hs hd (by rw [← e]; rfl)
  have hx := (hp.nd x s hs).node
  have hxb : b ≠ x := heap_ne hc hx (by decide)
  have h1 : (w8.setCell ⟨x, 0, none⟩ (.slice (some ⟨g8, 0, none⟩) len cap8)).heap[b]? = some (.cells c 75 (0, 0)) := by
    rw [set_heap hxb, hg.block b (lt_of_heap hc) (fun e => hgb (Option.some.inj e).symm)]
    exact hc
  refine ⟨⟨c, h1, hc4⟩, fun m t v hm hv => ?_⟩
  by_cases e : m = x
  · subst e
    have hx1 : (ph m).1 = .slice (some ⟨gs, 0, none⟩) E caps := by
      have := hp.c0 hs
      rw [hd] at this
      exact (Option.some.inj this).symm
    obtain ⟨_, cg, hcg⟩ := ownsRow_tag (hp.nd m s hs).ents (b := gs) (by rw [hx1]; rfl)
    have hxg : m ≠ gs := heap_ne hx hcg (by decide)
    rw [World.cell?_setCell_same w8 _ _ (hg.cell hd (by simp [hxg]))] at hv
    cases hv
    intro e
    have : g8 = b := by simpa [Value.ownBlock] using e
    have hbl := lt_of_heap hc
    rcases hat with h | h
    · exact hgb (h.trans this)
    · omega
  · rw [upd_other _ _ _ e] at hm
    have hx1 : (ph x).1 = .slice (some ⟨gs, 0, none⟩) E caps := by
      have := hp.c0 hs
      rw [hd] at this
      exact (Option.some.inj this).symm
    obtain ⟨_, cg, hcg⟩ := ownsRow_tag (hp.nd x s hs).ents (b := gs) (by rw [hx1]; rfl)
    have hmg : m ≠ gs := heap_ne (hp.nd m t hm).node hcg (by decide)
    rw [World.cell?_setCell_far w8 _ _ _ (Ne.symm e), hg.cell (hp.c0 hm) (by simp [hmg])] at hv
    exact hno m t v hm (by rw [hp.c0 hm]; exact hv)

/-- x.children = .. -/
theorem nb_C {row : Option Nat} (hp : RepP base W σ ph) (hN : NB B W σ) (hs : σ x = some s) (hg : W.grownBy w8 row) (hrow : ∀ g, row = some g → ∃ c fz, W.heap[g]? = some (.cells c 29 fz)) (v : Value) :
    NB B (w8.setCell ⟨x, 1, none⟩ v) (upd σ x s') := fun b hb => by
  obtain ⟨⟨c, hc, hc4⟩, hno⟩ := hN b hb
  have hx := (hp.nd x s hs).node
  have hxb : b ≠ x := heap_ne hc hx (by decide)
  have h1 : (w8.setCell ⟨x, 1, none⟩ v).heap[b]? = some (.cells c 75 (0, 0)) := by
    rw [set_heap hxb, hg.block b (lt_of_heap hc) (fun e => by
      obtain ⟨c2, fz, h2⟩ := hrow b e.symm
      rw [hc] at h2
      cases h2)]
    exact hc
  refine ⟨⟨c, h1, hc4⟩, fun m t u hm hv => ?_⟩
  have hm' : ∃ t', σ m = some t' := by
    by_cases e : m = x
    · exact ⟨s, by rw [e]; exact hs⟩
    · exact ⟨t, by rw [upd_other _ _ _ e] at hm; exact hm⟩
  obtain ⟨t', ht'⟩ := hm'
  rw [World.cell?_setCell_other w8 _ _ _ (show (⟨x, 1, none⟩ : Addr) ≠ ⟨m, 0, none⟩ by intro e; cases e), hg.cell (hp.c0 ht') (fun e => by
    obtain ⟨c2, fz, h2⟩ := hrow m e.symm
    have := (hp.nd m t' ht').node
    rw [this] at h2
    cases h2)] at hv
  exact hno m t' u ht' (by rw [hp.c0 ht']; exact hv)
theorem row_C {gs E caps : Nat} (hp : RepP base W σ ph) (hs : σ x = some s) (hd : W.cell? ⟨x, 1, none⟩ = some (.slice (some ⟨gs, 0, none⟩) E caps)) : ∀ g, some gs = some g → ∃ c fz, W.heap[g]? = some (.cells c 29 fz) := fun g hg => by
  cases hg
  have hx1 : (ph x).2 = .slice (some ⟨gs, 0, none⟩) E caps := by
    have := hp.c1 hs
    rw [hd] at this
    exact (Option.some.inj this).symm
  obtain ⟨_, cg, hcg⟩ := ownsRow_tag (hp.nd x s hs).kids (b := gs) (by rw [hx1]; rfl)
  exact ⟨cg, _, hcg⟩

/-- n.entries[k] = .. -/
theorem nb_put {gn L capn o1 o2 o3 o4 : Nat} {v1 v2 v3 v4 : Value} (hp : RepP base W σ ph) (hN : NB B W σ) (hr : σ n = some r) (hd : W.cell? ⟨n, 0, none⟩ = some (.slice (some ⟨gn, 0, none⟩) L capn)) :
    NB B ((((W.drew.setCell ⟨gn, o1, none⟩ v1).setCell ⟨gn, o2, none⟩ v2).setCell ⟨gn, o3, none⟩ v3).setCell ⟨gn, o4, none⟩ v4) (upd σ n s') := fun b hb => by
  obtain ⟨⟨c, hc, hc4⟩, hno⟩ := hN b hb
  have hgb : b ≠ gn := fun e => hno n r _ hr hd (by rw [e]; rfl)
  have hx1 : (ph n).1 = .slice (some ⟨gn, 0, none⟩) L capn := by
    have := hp.c0 hr
    rw [hd] at this
    exact (Option.some.inj this).symm
  obtain ⟨_, cg, hcg⟩ := ownsRow_tag (hp.nd n r hr).ents (b := gn) (by rw [hx1]; rfl)
  have h1 : ((((W.drew.setCell ⟨gn, o1, none⟩ v1).setCell ⟨gn, o2, none⟩ v2).setCell ⟨gn, o3, none⟩ v3).setCell ⟨gn, o4, none⟩ v4).heap[b]? = some (.cells c 75 (0, 0)) := by
    rw [set_heap hgb, set_heap hgb, set_heap hgb, set_heap hgb]
    exact hc
  refine ⟨⟨c, h1, hc4⟩, fun m t u hm hv => ?_⟩
  have hm' : ∃ t', σ m = some t' := by
    by_cases e : m = n
    · exact ⟨r, by rw [e]; exact hr⟩
    · exact ⟨t, by rw [upd_other _ _ _ e] at hm; exact hm⟩
  obtain ⟨t', ht'⟩ := hm'
  have hmg : gn ≠ m := Ne.symm (heap_ne (hp.nd m t' ht').node hcg (by decide))
  rw [World.cell?_setCell_far _ _ _ _ hmg, World.cell?_setCell_far _ _ _ _ hmg, World.cell?_setCell_far _ _ _ _ hmg, World.cell?_setCell_far _ _ _ _ hmg] at hv
  exact hno m t' u ht' hv

/-- n.children[k] = a node just made, or that was there. -/
theorem nb_cow {c c' k gc capc L : Nat} {w1 : World} {ph1 : Nat → Value × Value} {v : Value} (hF : CowF base W σ ph n r c k gc capc L) (hr : σ n = some r) (hN : NB B W σ) (hg : W.grownBy w1 none) (h1 : RepP base w1 (upd σ c' s') ph1) (hcn : c' ≠ n)
    (hph : ∀ m, m ≠ c' → ph1 m = ph m) (hfr : ∀ b, (ph1 c').1.ownBlock = some b → (∃ t, σ c' = some t ∧ ph1 c' = ph c') ∨ W.heap.size ≤ b) : NB B (w1.setCell ⟨gc, k, none⟩ v) (upd (upd σ c' s') n s) := fun b hb => by
  obtain ⟨⟨c, hc, hc4⟩, hno⟩ := hN b hb
  have hp : RepP base W.drew σ ph := hF.pd
  obtain ⟨_, cg, hcg⟩ := ownsRow_tag (hp.nd n r hr).kids (b := gc) (by rw [hF.vc]; rfl)
  have hcg' : W.heap[gc]? = some (.cells cg 29 (0, 0)) := hcg
  have hgb : b ≠ gc := heap_ne hc hcg' (by decide)
  have h2 : (w1.setCell ⟨gc, k, none⟩ v).heap[b]? = some (.cells c 75 (0, 0)) := by
    rw [set_heap hgb, hg.block b (lt_of_heap hc) (by simp)]
    exact hc
  refine ⟨⟨c, h2, hc4⟩, fun m t u hm hv => ?_⟩
  have hm' : ∃ t', upd σ c' s' m = some t' := by
    by_cases e : m = n
    · exact ⟨r, by rw [e, upd_other _ _ _ (Ne.symm hcn)]; exact hr⟩
    · exact ⟨t, by rw [upd_other _ _ _ e] at hm; exact hm⟩
  obtain ⟨t', ht'⟩ := hm'
  have hgm : gc ≠ m := fun e => by
    have hn := (h1.nd m t' ht').node
    have h3 : w1.heap[gc]? = some (.cells cg 29 (0, 0)) := by rw [hg.block gc (lt_of_heap hcg') (by simp)]; exact hcg'
    rw [← e, h3] at hn
    cases hn
  rw [World.cell?_setCell_far _ _ _ _ hgm, h1.c0 ht'] at hv
  have hu : u = (ph1 m).1 := (Option.some.inj hv).symm
  by_cases e : m = c'
  · subst e
    intro hub
    rw [hu] at hub
    rcases hfr b hub with ⟨t2, h3, h4⟩ | h3
    · exact hno m t2 _ h3 (hp.c0 h3) (by rw [← h4]; exact hub)
    · have := lt_of_heap hc
      omega
  · rw [upd_other _ _ _ e] at ht'
    rw [hph m e] at hu
    exact hno m t' u ht' (by rw [hu]; exact hp.c0 ht')
end

end Go.Proofs.Qxb6001038a
