import Derived.Test.Qxb6001038aG4c
namespace Go.Proofs.Qxb6001038a
open Go.RowKit
set_option linter.unusedVariables false

theorem grown_two {w a b : World} {gs g : Nat} (h : w.grownBy a (some gs)) (k : a.grownBy b (some g)) (hg : gs = g ∨ w.heap.size ≤ g) : w.grownBy b (some gs) :=
  ⟨k.os.trans h.os, k.tape.trans h.tape, k.output.trans h.output, Nat.le_trans h.size k.size, fun i hi hne => (k.block i (Nat.lt_of_lt_of_le hi h.size) (fun e => by
    cases e
    rcases hg with e | e
    · exact hne (by rw [e])
    · omega)).trans (h.block i hi hne)⟩

section
variable {base : Nat} {W : World} {σ : Nat → Option Nd} {ph : Nat → Value × Value} {x d : Nat} {s t : Nd}

/-- The other node's entries, where x's row alone may change. -/
theorem mrgE {gs E caps : Nat} (hp : RepP base W σ ph) (hs : σ x = some s) (ht : σ d = some t) (hdx : d ≠ x) (hpos : 0 < t.es.length) (hd0 : W.cell? ⟨x, 0, none⟩ = some (.slice (some ⟨gs, 0, none⟩) E caps)) :
    ∃ gd capd, W.cell? ⟨d, 0, none⟩ = some (.slice (some ⟨gd, 0, none⟩) t.es.length capd) ∧ ∀ w8, W.grownBy w8 (some gs) → w8.cell? ⟨d, 0, none⟩ = some (.slice (some ⟨gd, 0, none⟩) t.es.length capd) ∧ ∀ j u, (encE t.es)[j]? = some u → w8.cell? ((⟨gd, 0, none⟩ : Addr).add j) = some u := by
  obtain ⟨gd, capd, hv, hl, hm, hg⟩ := ownsRow_pos (hp.nd d t ht).ents hpos
  have hx := hp.c0 hs
  rw [hd0] at hx
  have hx' : (ph x).1 = .slice (some ⟨gs, 0, none⟩) E caps := (Option.some.inj hx).symm
  have d0 := hp.c0 ht
  rw [hv] at d0
  obtain ⟨_, c1, t1⟩ := ownsRow_tag (hp.nd x s hs).ents (b := gs) (by rw [hx']; rfl)
  have hsep : gd ≠ gs := fun e => hdx (hp.sepE d t x s gs ht hs (by rw [hv, e]; rfl) (by rw [hx']; rfl))
  have hds := tag_ne (hp.nd d t ht).node t1 (by decide)
  refine ⟨gd, capd, d0, fun w8 hg8 => ⟨hg8.cell d0 (by simp [hds]), fun j u hu => ?_⟩⟩
  have := (hp.nd d t ht).ents.cells (g := gd) (by rw [hv]; rfl) j u hu
  rw [Addr.add_lit] at this ⊢
  exact hg8.cell this (by simp [hsep])
theorem mrgC {gs E caps : Nat} (hp : RepP base W σ ph) (hs : σ x = some s) (ht : σ d = some t) (hdx : d ≠ x) (hpos : 0 < t.cs.length) (hd0 : W.cell? ⟨x, 1, none⟩ = some (.slice (some ⟨gs, 0, none⟩) E caps)) :
    ∃ gd capd, W.cell? ⟨d, 1, none⟩ = some (.slice (some ⟨gd, 0, none⟩) t.cs.length capd) ∧ ∀ w8, W.grownBy w8 (some gs) → w8.cell? ⟨d, 1, none⟩ = some (.slice (some ⟨gd, 0, none⟩) t.cs.length capd) ∧ ∀ j u, (encC t.cs)[j]? = some u → w8.cell? ((⟨gd, 0, none⟩ : Addr).add j) = some u := by
  obtain ⟨gd, capd, hv, hl, hm, hg⟩ := ownsRow_pos (hp.nd d t ht).kids hpos
  have hx := hp.c1 hs
  rw [hd0] at hx
  have hx' : (ph x).2 = .slice (some ⟨gs, 0, none⟩) E caps := (Option.some.inj hx).symm
  have d0 := hp.c1 ht
  rw [hv] at d0
  obtain ⟨_, c1, t1⟩ := ownsRow_tag (hp.nd x s hs).kids (b := gs) (by rw [hx']; rfl)
  have hsep : gd ≠ gs := fun e => hdx (hp.sepC d t x s gs ht hs (by rw [hv, e]; rfl) (by rw [hx']; rfl))
  have hds := tag_ne (hp.nd d t ht).node t1 (by decide)
  refine ⟨gd, capd, d0, fun w8 hg8 => ⟨hg8.cell d0 (by simp [hds]), fun j u hu => ?_⟩⟩
  have := (hp.nd d t ht).kids.cells (g := gd) (by rw [hv]; rfl) j u hu
  rw [Addr.add_lit] at this ⊢
  exact hg8.cell this (by simp [hsep])

/-- x.children = append(x.children, ..): what is read of x. -/
structure OwnC (base : Nat) (W : World) (σ : Nat → Option Nd) (x : Nat) (s : Nd) (gs E caps : Nat) : Prop where
  d0 : W.cell? ⟨x, 1, none⟩ = some (.slice (some ⟨gs, 0, none⟩) E caps)
  own : W.drew.ownsRow base 29 1 (.slice (some ⟨gs, 0, none⟩) E caps) E (encC s.cs)
  far : ∀ w8, W.grownBy w8 (some gs) → w8.frozen? ⟨x, 1, none⟩ = false ∧ w8.cell? ⟨x, 1, none⟩ = some (.slice (some ⟨gs, 0, none⟩) E caps)
  kc : ∀ m t, σ m = some t → m ≠ x → ∀ w8 v, W.grownBy w8 (some gs) → (w8.setCell ⟨x, 1, none⟩ v).cell? ⟨m, 1, none⟩ = W.cell? ⟨m, 1, none⟩
  fin : ∀ w8 g8 len cap8 cs', W.grownBy w8 (some gs) → 0 < len → len = cs'.length → w8.ownsRow base 29 1 (.slice (some ⟨g8, 0, none⟩) len cap8) len (encC cs') → (some gs = some g8 ∨ W.heap.size ≤ g8) →
    Rep base (w8.setCell ⟨x, 1, none⟩ (.slice (some ⟨g8, 0, none⟩) len cap8)) (upd σ x { s with cs := cs' }) ∧ Mut base W (w8.setCell ⟨x, 1, none⟩ (.slice (some ⟨g8, 0, none⟩) len cap8))
theorem ownC (hp : RepP base W σ ph) (hs : σ x = some s) {E : Nat} (hE : E = s.cs.length) (hpos : 0 < E) (hb : base ≤ W.heap.size) : ∃ gs caps, OwnC base W σ x s gs E caps := by
  subst hE
  obtain ⟨gs, caps, hvs, hls, hlsm, hgs⟩ := ownsRow_pos (hp.nd x s hs).kids hpos
  have d0 := hp.c1 hs
  rw [hvs] at d0
  obtain ⟨_, cs1, ts⟩ := ownsRow_tag (hp.nd x s hs).kids (b := gs) (by rw [hvs]; rfl)
  have nx := (hp.nd x s hs).node
  have hxs := tag_ne nx ts (by decide)
  have ho := (hp.nd x s hs).kids
  rw [hvs] at ho
  exact ⟨gs, caps, d0, ho.drew, fun w8 hg => ⟨(hg.frozen_far ⟨x, 1, none⟩ (lt_of_heap nx) (by simp [hxs])).trans (hp.fz hs 1), hg.cell d0 (by simp [hxs])⟩, fun m t hm hmx w8 v hg => kc_C hp hm hmx hg ts (by decide) v, fun w8 g8 len cap8 cs' hg hpos hl ho8 hat => fin_C hp hs hb (by rw [hvs]; exact hg) g8 len cap8 cs' hpos hl ho8 (by rw [hvs]; exact hat)⟩

/-- x.children = nil where it was nil. -/
theorem nil_C (hp : RepP base W σ ph) (hs : σ x = some s) (hcs : s.cs = []) (hb : base ≤ W.heap.size) {m : Nat} {t : Nd} (hm : σ m = some t) (hmx : m ≠ x) : Rep base (W.drew.setCell ⟨x, 1, none⟩ (.slice none 0 0)) (upd σ x { s with cs := [] }) ∧ MutC base m W (W.drew.setCell ⟨x, 1, none⟩ (.slice none 0 0)) :=
  ⟨⟨_, RepP.setC hp hs (grown_drew (grown_refl W _)) (.slice none 0 0) [] (World.ownsRow_nil _ _ _ _) (fun b hb => by cases hb) (fun _ => rfl)⟩, ⟨mut_setC hp hs (grown_drew (grown_refl W _)) hb _, KC.of_eq (World.cell?_setCell_far _ _ _ _ (Ne.symm hmx))⟩⟩
end

end Go.Proofs.Qxb6001038a
