import Derived.Test.Qxb6001038aG1b
import Derived.Test.Qxb6001038aDel
import Derived.Test.Qxb6001038aDec
import Derived.Test.Qxb6001038aIns
namespace Go.Proofs.Qxb6001038a
open Go.RowKit
set_option linter.unusedVariables false

/-- A new row of one entry. -/
def ebox (kk : Nat) : Obj := .cells #[.string (p6 kk), .slice none 0 0, .int .u64 kk, .int .u64 0] 75
def cbox (c : Nat) : Obj := .cells #[.pointer (some ⟨c, 0, none⟩)] 29

/-- x.entries = v, v the row of es'. -/
theorem fin_E {base : Nat} {W w8 : World} {σ : Nat → Option Nd} {ph : Nat → Value × Value} {x : Nat} {s : Nd} (hp : RepP base W σ ph) (hs : σ x = some s) (hb : base ≤ W.heap.size) (hg : W.grownBy w8 (ph x).1.ownBlock) (g8 len cap8 : Nat) (es' : List Nat)
    (hl : len = es'.length) (ho : w8.ownsRow base 75 4 (.slice (some ⟨g8, 0, none⟩) len cap8) len (encE es')) (hat : (ph x).1.ownBlock = some g8 ∨ W.heap.size ≤ g8) :
    Rep base (w8.setCell ⟨x, 0, none⟩ (.slice (some ⟨g8, 0, none⟩) len cap8)) (upd σ x { s with es := es' }) ∧ Mut base W (w8.setCell ⟨x, 0, none⟩ (.slice (some ⟨g8, 0, none⟩) len cap8)) := by
  refine ⟨⟨_, RepP.setE hp hs hg _ es' (by rw [← hl]; exact ho) (fun b hb => ?_)⟩, mut_setE hp hs hg hb _⟩
  simp only [Value.ownBlock, Option.some.injEq] at hb
  rw [← hb]
  exact hat
theorem fin_C {base : Nat} {W w8 : World} {σ : Nat → Option Nd} {ph : Nat → Value × Value} {x : Nat} {s : Nd} (hp : RepP base W σ ph) (hs : σ x = some s) (hb : base ≤ W.heap.size) (hg : W.grownBy w8 (ph x).2.ownBlock) (g8 len cap8 : Nat) (cs' : List Nat) (hpos : 0 < len)
    (hl : len = cs'.length) (ho : w8.ownsRow base 29 1 (.slice (some ⟨g8, 0, none⟩) len cap8) len (encC cs')) (hat : (ph x).2.ownBlock = some g8 ∨ W.heap.size ≤ g8) :
    Rep base (w8.setCell ⟨x, 1, none⟩ (.slice (some ⟨g8, 0, none⟩) len cap8)) (upd σ x { s with cs := cs' }) ∧ Mut base W (w8.setCell ⟨x, 1, none⟩ (.slice (some ⟨g8, 0, none⟩) len cap8)) := by
  refine ⟨⟨_, RepP.setC hp hs hg _ cs' (by rw [← hl]; exact ho) (fun b hb => ?_) (fun e => ?_)⟩, mut_setC hp hs hg hb _⟩
  · simp only [Value.ownBlock, Option.some.injEq] at hb
    rw [← hb]
    exact hat
  · rw [e] at hl
    simp at hl
    omega

theorem kc_E {base gs : Nat} {W w8 : World} {σ : Nat → Option Nd} {ph : Nat → Value × Value} {m x : Nat} {t : Nd} {c : Array Value} {ty : TypeId} {fz : Nat × Nat} (hp : RepP base W σ ph) (hm : σ m = some t) (hg : W.grownBy w8 (some gs)) (ht : W.heap[gs]? = some (.cells c ty fz)) (h64 : ty ≠ 64) (v : Value) :
    (w8.setCell ⟨x, 0, none⟩ v).cell? ⟨m, 1, none⟩ = W.cell? ⟨m, 1, none⟩ := by
  rw [World.cell?_setCell_other w8 _ _ _ (show (⟨x, 0, none⟩ : Addr) ≠ ⟨m, 1, none⟩ by intro e; cases e)]
  have hn := (hp.nd m t hm).node
  have hne : m ≠ gs := fun e => by rw [e, ht] at hn; cases hn; exact h64 rfl
  exact (hg.cell (hp.c1 hm) (by simp [hne])).trans (hp.c1 hm).symm
theorem kc_C {base gs : Nat} {W w8 : World} {σ : Nat → Option Nd} {ph : Nat → Value × Value} {m x : Nat} {t : Nd} {c : Array Value} {ty : TypeId} {fz : Nat × Nat} (hp : RepP base W σ ph) (hm : σ m = some t) (hmx : m ≠ x) (hg : W.grownBy w8 (some gs)) (ht : W.heap[gs]? = some (.cells c ty fz)) (h64 : ty ≠ 64) (v : Value) :
    (w8.setCell ⟨x, 1, none⟩ v).cell? ⟨m, 1, none⟩ = W.cell? ⟨m, 1, none⟩ := by
  rw [World.cell?_setCell_other w8 _ _ _ (show (⟨x, 1, none⟩ : Addr) ≠ ⟨m, 1, none⟩ by intro e; cases e; exact hmx rfl)]
  have hn := (hp.nd m t hm).node
  have hne : m ≠ gs := fun e => by rw [e, ht] at hn; cases hn; exact h64 rfl
  exact (hg.cell (hp.c1 hm) (by simp [hne])).trans (hp.c1 hm).symm

section
variable {base : Nat} {W : World} {σ : Nat → Option Nd} {ph : Nat → Value × Value} {n x k : Nat} {r s : Nd}

/-- What 'x.entries = Insert(x.entries, .., n.entries[k])' and 'x.entries = append(x.entries, n.entries[k])' read. -/
structure EntF (base : Nat) (W : World) (σ : Nat → Option Nd) (ph : Nat → Value × Value) (n : Nat) (r : Nd) (x : Nat) (s : Nd) (k kk gs caps gn capn E L : Nat) : Prop where
  d0 : W.cell? ⟨x, 0, none⟩ = some (.slice (some ⟨gs, 0, none⟩) E caps)
  c0 : W.cell? ⟨n, 0, none⟩ = some (.slice (some ⟨gn, 0, none⟩) L capn)
  k0 : W.cell? ⟨gn, k * 4, none⟩ = some (.string (p6 kk))
  k1 : W.cell? ⟨gn, k * 4 + 1, none⟩ = some (.slice none 0 0)
  k2 : W.cell? ⟨gn, k * 4 + 2, none⟩ = some (.int .u64 kk)
  k3 : W.cell? ⟨gn, k * 4 + 3, none⟩ = some (.int .u64 0)
  lt : k < L
  le : E ≤ caps ∧ caps ≤ 9223372036854775807
  o1 : (W.alloc (ebox kk)).drew.ownsRow base 75 4 (.slice (some ⟨gs, 0, none⟩) E caps) E (encE s.es)
  o2 : (W.alloc (ebox kk)).drew.heap[W.heap.size]? = some (.cells (enE kk).toArray 75 (0, 0))
  o3 : gs < W.heap.size
  far : ∀ w8, W.grownBy w8 (some gs) → w8.frozen? ⟨x, 0, none⟩ = false ∧ w8.cell? ⟨x, 0, none⟩ = some (.slice (some ⟨gs, 0, none⟩) E caps) ∧ w8.cell? ⟨n, 0, none⟩ = some (.slice (some ⟨gn, 0, none⟩) L capn) ∧
    w8.cell? ⟨gn, k * 4, none⟩ = some (.string (p6 kk)) ∧ w8.cell? ⟨gn, k * 4 + 1, none⟩ = some (.slice none 0 0) ∧ w8.cell? ⟨gn, k * 4 + 2, none⟩ = some (.int .u64 kk) ∧ w8.cell? ⟨gn, k * 4 + 3, none⟩ = some (.int .u64 0)
  xn : n ≠ x
  xg : gn ≠ x
  kc : ∀ m t, σ m = some t → ∀ w8 v, W.grownBy w8 (some gs) → (w8.setCell ⟨x, 0, none⟩ v).cell? ⟨m, 1, none⟩ = W.cell? ⟨m, 1, none⟩
  fin : ∀ w8 g8 len cap8 es', W.grownBy w8 (some gs) → len = es'.length → w8.ownsRow base 75 4 (.slice (some ⟨g8, 0, none⟩) len cap8) len (encE es') → (some gs = some g8 ∨ W.heap.size ≤ g8) →
    Rep base (w8.setCell ⟨x, 0, none⟩ (.slice (some ⟨g8, 0, none⟩) len cap8)) (upd σ x { s with es := es' }) ∧ Mut base W (w8.setCell ⟨x, 0, none⟩ (.slice (some ⟨g8, 0, none⟩) len cap8))

theorem tag_ne {b b' : Nat} {c c' : Array Value} {t t' : TypeId} {f f' : Nat × Nat} (h : W.heap[b]? = some (.cells c t f)) (h' : W.heap[b']? = some (.cells c' t' f')) (ht : t ≠ t') : b ≠ b' := fun e => by
  rw [e, h'] at h
  cases h
  exact ht rfl

theorem entF (hp : RepP base W σ ph) (hr : σ n = some r) (hs : σ x = some s) (hxn : x ≠ n) (hk : k < r.es.length) (he : 0 < s.es.length) (hb : base ≤ W.heap.size) {kk E L : Nat} (hkk : r.es.getD k 0 = kk) (hE : E = s.es.length) (hL : L = r.es.length) :
    ∃ gs caps gn capn, EntF base W σ ph n r x s k kk gs caps gn capn E L := by
  subst hE hL
  obtain ⟨gs, caps, hvs, hls, hlsm, hgs⟩ := ownsRow_pos (hp.nd x s hs).ents he
  obtain ⟨gn, capn, hvn, hln, hlnm, hgn⟩ := ownsRow_pos (hp.nd n r hr).ents (by omega)
  obtain ⟨k0, k1, k2, k3⟩ := ent_cell hp hr hvn k hk
  rw [hkk] at k0 k2
  have d0 := hp.c0 hs
  have c0 := hp.c0 hr
  rw [hvs] at d0
  rw [hvn] at c0
  obtain ⟨_, cs1, ts⟩ := ownsRow_tag (hp.nd x s hs).ents (b := gs) (by rw [hvs]; rfl)
  obtain ⟨_, cn1, tn⟩ := ownsRow_tag (hp.nd n r hr).ents (b := gn) (by rw [hvn]; rfl)
  have hsep : gn ≠ gs := fun e => hxn (hp.sepE x s n r gs hs hr (by rw [hvs]; rfl) (by rw [hvn, e]; rfl))
  have nx := (hp.nd x s hs).node
  have nn := (hp.nd n r hr).node
  have hxs := tag_ne nx ts (by decide)
  have hns := tag_ne nn ts (by decide)
  have hgx := tag_ne tn nx (by decide)
  have ho := (hp.nd x s hs).ents
  rw [hvs] at ho
  refine ⟨gs, caps, gn, capn, d0, c0, k0, k1, k2, k3, hk, ⟨hls, hlsm⟩, (ho.alloc _).drew, heap_alloc_new W _, hgs, fun w8 hg => ⟨(hg.frozen_far ⟨x, 0, none⟩ (lt_of_heap nx) (by simp [hxs])).trans (hp.fz hs 0), hg.cell d0 (by simp [hxs]), hg.cell c0 (by simp [hns]), hg.cell k0 (by simp [hsep]), hg.cell k1 (by simp [hsep]), hg.cell k2 (by simp [hsep]), hg.cell k3 (by simp [hsep])⟩, Ne.symm hxn, hgx, fun m t hm w8 v hg => kc_E hp hm hg ts (by decide) v, fun w8 g8 len cap8 es' hg hl ho8 hat => fin_E hp hs hb (by rw [hvs]; exact hg) g8 len cap8 es' hl ho8 (by rw [hvs]; exact hat)⟩

/-- What 'x.children = Insert(x.children, .., l.children[k])' and its append read. -/
structure KidF (base : Nat) (W : World) (σ : Nat → Option Nd) (ph : Nat → Value × Value) (n : Nat) (r : Nd) (x : Nat) (s : Nd) (k kk gs caps gn capn E L : Nat) : Prop where
  d0 : W.cell? ⟨x, 1, none⟩ = some (.slice (some ⟨gs, 0, none⟩) E caps)
  c0 : W.cell? ⟨n, 1, none⟩ = some (.slice (some ⟨gn, 0, none⟩) L capn)
  k0 : W.cell? ⟨gn, k, none⟩ = some (.pointer (some ⟨kk, 0, none⟩))
  lt : k < L
  le : E ≤ caps ∧ caps ≤ 9223372036854775807
  o1 : (W.alloc (cbox kk)).drew.ownsRow base 29 1 (.slice (some ⟨gs, 0, none⟩) E caps) E (encC s.cs)
  o2 : (W.alloc (cbox kk)).drew.heap[W.heap.size]? = some (.cells [.pointer (some ⟨kk, 0, none⟩)].toArray 29 (0, 0))
  o3 : gs < W.heap.size
  far : ∀ w8, W.grownBy w8 (some gs) → w8.frozen? ⟨x, 1, none⟩ = false ∧ w8.cell? ⟨x, 1, none⟩ = some (.slice (some ⟨gs, 0, none⟩) E caps) ∧ w8.cell? ⟨n, 1, none⟩ = some (.slice (some ⟨gn, 0, none⟩) L capn) ∧
    w8.cell? ⟨gn, k, none⟩ = some (.pointer (some ⟨kk, 0, none⟩))
  xn : n ≠ x
  xg : gn ≠ x
  kc : ∀ m t, σ m = some t → m ≠ x → ∀ w8 v, W.grownBy w8 (some gs) → (w8.setCell ⟨x, 1, none⟩ v).cell? ⟨m, 1, none⟩ = W.cell? ⟨m, 1, none⟩
  fin : ∀ w8 g8 len cap8 cs', W.grownBy w8 (some gs) → 0 < len → len = cs'.length → w8.ownsRow base 29 1 (.slice (some ⟨g8, 0, none⟩) len cap8) len (encC cs') → (some gs = some g8 ∨ W.heap.size ≤ g8) →
    Rep base (w8.setCell ⟨x, 1, none⟩ (.slice (some ⟨g8, 0, none⟩) len cap8)) (upd σ x { s with cs := cs' }) ∧ Mut base W (w8.setCell ⟨x, 1, none⟩ (.slice (some ⟨g8, 0, none⟩) len cap8))

theorem kidF (hp : RepP base W σ ph) (hr : σ n = some r) (hs : σ x = some s) (hxn : x ≠ n) (hk : k < r.cs.length) (he : 0 < s.cs.length) (hb : base ≤ W.heap.size) {kk E L : Nat} (hkk : r.cs.getD k 0 = kk) (hE : E = s.cs.length) (hL : L = r.cs.length) :
    ∃ gs caps gn capn, KidF base W σ ph n r x s k kk gs caps gn capn E L := by
  subst hE hL
  obtain ⟨gs, caps, hvs, hls, hlsm, hgs⟩ := ownsRow_pos (hp.nd x s hs).kids he
  obtain ⟨gn, capn, hvn, hln, hlnm, hgn⟩ := ownsRow_pos (hp.nd n r hr).kids (by omega)
  have k0 := kid_cell hp hr hvn k hk
  rw [hkk] at k0
  have d0 := hp.c1 hs
  have c0 := hp.c1 hr
  rw [hvs] at d0
  rw [hvn] at c0
  obtain ⟨_, cs1, ts⟩ := ownsRow_tag (hp.nd x s hs).kids (b := gs) (by rw [hvs]; rfl)
  obtain ⟨_, cn1, tn⟩ := ownsRow_tag (hp.nd n r hr).kids (b := gn) (by rw [hvn]; rfl)
  have hsep : gn ≠ gs := fun e => hxn (hp.sepC x s n r gs hs hr (by rw [hvs]; rfl) (by rw [hvn, e]; rfl))
  have nx := (hp.nd x s hs).node
  have nn := (hp.nd n r hr).node
  have hxs := tag_ne nx ts (by decide)
  have hns := tag_ne nn ts (by decide)
  have hgx := tag_ne tn nx (by decide)
  have ho := (hp.nd x s hs).kids
  rw [hvs] at ho
  refine ⟨gs, caps, gn, capn, d0, c0, k0, hk, ⟨hls, hlsm⟩, (ho.alloc _).drew, heap_alloc_new W _, hgs, fun w8 hg => ⟨(hg.frozen_far ⟨x, 1, none⟩ (lt_of_heap nx) (by simp [hxs])).trans (hp.fz hs 1), hg.cell d0 (by simp [hxs]), hg.cell c0 (by simp [hns]), hg.cell k0 (by simp [hsep])⟩, Ne.symm hxn, hgx, fun m t hm hmx w8 v hg => kc_C hp hm hmx hg ts (by decide) v, fun w8 g8 len cap8 cs' hg hpos hl ho8 hat => fin_C hp hs hb (by rw [hvs]; exact hg) g8 len cap8 cs' hpos hl ho8 (by rw [hvs]; exact hat)⟩

theorem encE_set (es : List Nat) (k v : Nat) : ((((encE es).set (k * 4) (.string (p6 v))).set (k * 4 + 1) (.slice none 0 0)).set (k * 4 + 2) (.int .u64 v)).set (k * 4 + 3) (.int .u64 0) = encE (es.set k v) := by
  induction es generalizing k with
  | nil => simp [encE]
  | cons e es ih =>
    have hc : ∀ (e : Nat) (l : List Nat), encE (e :: l) = .string (p6 e) :: .slice none 0 0 :: .int .u64 e :: .int .u64 0 :: encE l := fun e l => rfl
    cases k with
    | zero => simp only [hc, List.set_cons_zero, Nat.zero_mul, Nat.zero_add, List.set_cons_succ]
    | succ k =>
      rw [List.set_cons_succ, hc, hc, ← ih k, show (k + 1) * 4 = k * 4 + 4 by omega]
      simp only [Nat.add_assoc, Nat.reduceAdd]
      rw [show k * 4 + 5 = (k * 4 + 1) + 4 by omega, show k * 4 + 6 = (k * 4 + 2) + 4 by omega, show k * 4 + 7 = (k * 4 + 3) + 4 by omega]
      simp only [List.set_cons_succ]

/-- What 'n.entries[k] = l.entries[j]' reads and writes. -/
structure PutF (base : Nat) (W : World) (σ : Nat → Option Nd) (ph : Nat → Value × Value) (n : Nat) (r : Nd) (l : Nat) (t : Nd) (k j kk gs caps gn capn E L : Nat) : Prop where
  d0 : W.cell? ⟨l, 0, none⟩ = some (.slice (some ⟨gs, 0, none⟩) E caps)
  c0 : W.cell? ⟨n, 0, none⟩ = some (.slice (some ⟨gn, 0, none⟩) L capn)
  k0 : W.cell? ⟨gs, j * 4, none⟩ = some (.string (p6 kk))
  k1 : W.cell? ⟨gs, j * 4 + 1, none⟩ = some (.slice none 0 0)
  k2 : W.cell? ⟨gs, j * 4 + 2, none⟩ = some (.int .u64 kk)
  k3 : W.cell? ⟨gs, j * 4 + 3, none⟩ = some (.int .u64 0)
  lt : k < L
  ltj : j < E
  fz : ∀ i, W.frozen? ⟨gn, i, none⟩ = false
  ng : n ≠ gn
  lg : l ≠ gn
  gg : gs ≠ gn
  fin : Rep base ((((W.drew.setCell ⟨gn, k * 4, none⟩ (.string (p6 kk))).setCell ⟨gn, k * 4 + 1, none⟩ (.slice none 0 0)).setCell ⟨gn, k * 4 + 2, none⟩ (.int .u64 kk)).setCell ⟨gn, k * 4 + 3, none⟩ (.int .u64 0)) (upd σ n { r with es := r.es.set k kk }) ∧
    Mut base W ((((W.drew.setCell ⟨gn, k * 4, none⟩ (.string (p6 kk))).setCell ⟨gn, k * 4 + 1, none⟩ (.slice none 0 0)).setCell ⟨gn, k * 4 + 2, none⟩ (.int .u64 kk)).setCell ⟨gn, k * 4 + 3, none⟩ (.int .u64 0))
  kc : ((((W.drew.setCell ⟨gn, k * 4, none⟩ (.string (p6 kk))).setCell ⟨gn, k * 4 + 1, none⟩ (.slice none 0 0)).setCell ⟨gn, k * 4 + 2, none⟩ (.int .u64 kk)).setCell ⟨gn, k * 4 + 3, none⟩ (.int .u64 0)).cell? ⟨n, 1, none⟩ = W.cell? ⟨n, 1, none⟩
  sets : ∃ c0 c1 c2 c3, W.cell? ⟨gn, k * 4, none⟩ = some c0 ∧ W.cell? ⟨gn, k * 4 + 1, none⟩ = some c1 ∧ W.cell? ⟨gn, k * 4 + 2, none⟩ = some c2 ∧ W.cell? ⟨gn, k * 4 + 3, none⟩ = some c3

theorem putF {l : Nat} {t : Nd} {j : Nat} (hp : RepP base W σ ph) (hr : σ n = some r) (ht : σ l = some t) (hln : l ≠ n) (hk : k < r.es.length) (hj : j < t.es.length) (hb : base ≤ W.heap.size) {kk E L : Nat} (hkk : t.es.getD j 0 = kk) (hE : E = t.es.length) (hL : L = r.es.length) :
    ∃ gs caps gn capn, PutF base W σ ph n r l t k j kk gs caps gn capn E L := by
  subst hE hL
  obtain ⟨gs, caps, hvs, hls, hlsm, hgs⟩ := ownsRow_pos (hp.nd l t ht).ents (by omega)
  obtain ⟨gn, capn, hvn, hln', hlnm, hgn⟩ := ownsRow_pos (hp.nd n r hr).ents (by omega)
  obtain ⟨k0, k1, k2, k3⟩ := ent_cell hp ht hvs j hj
  obtain ⟨m0, m1, m2, m3⟩ := ent_cell hp hr hvn k hk
  rw [hkk] at k0 k2
  have d0 := hp.c0 ht
  have c0 := hp.c0 hr
  rw [hvs] at d0
  rw [hvn] at c0
  obtain ⟨_, cs1, ts⟩ := ownsRow_tag (hp.nd l t ht).ents (b := gs) (by rw [hvs]; rfl)
  obtain ⟨hbn, cn1, tn⟩ := ownsRow_tag (hp.nd n r hr).ents (b := gn) (by rw [hvn]; rfl)
  have hsep : gs ≠ gn := fun e => hln (hp.sepE l t n r gs ht hr (by rw [hvs]; rfl) (by rw [hvn, e]; rfl))
  have nl := (hp.nd l t ht).node
  have nn := (hp.nd n r hr).node
  have hns := tag_ne nn tn (by decide)
  have hls := tag_ne nl tn (by decide)
  have ho := (hp.nd n r hr).ents
  rw [hvn] at ho
  obtain ⟨s0, g0⟩ := World.ownsRow.stored ho.drew (k * 4) (.string (p6 kk))
  obtain ⟨s1, g1⟩ := World.ownsRow.stored s0 (k * 4 + 1) (.slice none 0 0)
  obtain ⟨s2, g2⟩ := World.ownsRow.stored s1 (k * 4 + 2) (.int .u64 kk)
  obtain ⟨s3, g3⟩ := World.ownsRow.stored s2 (k * 4 + 3) (.int .u64 0)
  rw [encE_set] at s3
  have hg := grown_trans (grown_drew (grown_refl W (some gn))) (grown_trans g0 (grown_trans g1 (grown_trans g2 g3)))
  have hl : (r.es.set k kk).length = r.es.length := by simp
  refine ⟨gs, caps, gn, capn, d0, c0, k0, k1, k2, k3, hk, hj, fun i => ho.frozenAt i, hns, hls, hsep, ⟨⟨_, hp.rowE hr (by rw [hvn]; exact hg) (r.es.set k kk) (by rw [hvn, hl]; exact s3)⟩, Mut.grown hg hb (fun b hb' => ?_)⟩, (cell_off hns (cell_off hns (cell_off hns (cell_off hns (show W.drew.cell? _ = _ from hp.c1 hr))))).trans (hp.c1 hr).symm, _, _, _, _, m0, m1, m2, m3⟩
  cases hb'
  exact ⟨hbn, cn1, 75, _, tn, .inr (.inl rfl)⟩
end

end Go.Proofs.Qxb6001038a
