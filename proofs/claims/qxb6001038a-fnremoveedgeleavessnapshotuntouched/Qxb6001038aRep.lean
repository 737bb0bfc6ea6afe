import Derived.Test.Qxb6001038aT1
import Derived.Deep.AppendLies
namespace Go.Proofs.Qxb6001038a
open Go.RowKit
set_option linter.unusedVariables false

/-- A node of the tree, abstractly: its entries by their numbers, its children and its owner by their blocks. -/
structure Nd where
  es : List Nat
  cs : List Nat
  own : Nat

def enE (k : Nat) : List Value := [.string (p6 k), .slice none 0 0, .int .u64 k, .int .u64 0]
def encE (es : List Nat) : List Value := es.flatMap enE
def encC (cs : List Nat) : List Value := cs.map fun c => .pointer (some ⟨c, 0, none⟩)

theorem enE_len (k : Nat) : (enE k).length = 4 := rfl
theorem encE_len (es : List Nat) : (encE es).length = es.length * 4 := by
  induction es with
  | nil => rfl
  | cons e es ih => simp only [encE, List.flatMap_cons, List.length_append, enE_len, List.length_cons] at ih ⊢; omega
theorem encC_len (cs : List Nat) : (encC cs).length = cs.length * 1 := by simp [encC]
theorem encE_append (a b : List Nat) : encE (a ++ b) = encE a ++ encE b := by simp [encE]
theorem encC_append (a b : List Nat) : encC (a ++ b) = encC a ++ encC b := by simp [encC]
theorem encE_one (k : Nat) : encE [k] = enE k := by simp [encE]
theorem encC_one (c : Nat) : encC [c] = [.pointer (some ⟨c, 0, none⟩)] := rfl
theorem encE_cell1 (es : List Nat) : ∀ u ∈ encE es, u.oneCell' = true := by
  intro u hu
  simp only [encE, List.mem_flatMap] at hu
  obtain ⟨k, _, hk⟩ := hu
  simp only [enE, List.mem_cons, List.not_mem_nil, or_false] at hk
  rcases hk with rfl | rfl | rfl | rfl <;> rfl
theorem encC_cell1 (cs : List Nat) : ∀ u ∈ encC cs, u.oneCell' = true := by
  intro u hu
  simp only [encC, List.mem_map] at hu
  obtain ⟨k, _, rfl⟩ := hu
  rfl
theorem encE_take (es : List Nat) (i : Nat) : (encE es).take (i * 4) = encE (es.take i) := by
  induction es generalizing i with
  | nil => simp [encE]
  | cons e es ih =>
    cases i with
    | zero => simp [encE]
    | succ i =>
      rw [List.take_succ_cons]
      show (enE e ++ encE es).take _ = enE e ++ encE (es.take i)
      rw [List.take_append, List.take_of_length_le (by rw [enE_len]; omega), enE_len, show (i + 1) * 4 - 4 = i * 4 by omega, ih]
theorem encE_drop (es : List Nat) (i : Nat) : (encE es).drop (i * 4) = encE (es.drop i) := by
  induction es generalizing i with
  | nil => simp [encE]
  | cons e es ih =>
    cases i with
    | zero => simp [encE]
    | succ i =>
      rw [List.drop_succ_cons]
      show (enE e ++ encE es).drop _ = encE (es.drop i)
      rw [List.drop_append, List.drop_eq_nil_of_le (by rw [enE_len]; omega), enE_len, show (i + 1) * 4 - 4 = i * 4 by omega, ih, List.nil_append]
theorem encC_take (cs : List Nat) (i : Nat) : (encC cs).take i = encC (cs.take i) := by simp [encC]
theorem encC_drop (cs : List Nat) (i : Nat) : (encC cs).drop i = encC (cs.drop i) := by simp [encC]

/-- The four cells of entry i. -/
theorem encE_get (es : List Nat) (i : Nat) (hi : i < es.length) (j : Nat) (hj : j < 4) : (encE es)[i * 4 + j]? = (enE (es.getD i 0))[j]? := by
  rw [← List.getElem?_drop, encE_drop, List.drop_eq_getElem_cons hi]
  show (enE _ ++ encE _)[j]? = _
  rw [List.getElem?_append_left (by rw [enE_len]; exact hj)]
  simp [List.getD, hi]
theorem encC_get (cs : List Nat) (i : Nat) (hi : i < cs.length) : (encC cs)[i]? = some (.pointer (some ⟨cs.getD i 0, 0, none⟩)) := by
  simp [encC, List.getD, hi]

/-- Node n lies in w as r, its two slices ve and vc. -/
structure NodeAt (base : Nat) (w : World) (n : Nat) (r : Nd) (ve vc : Value) : Prop where
  lo : base ≤ n
  node : w.heap[n]? = some (.cells #[ve, vc, .pointer (some ⟨r.own, 0, none⟩)] 64 (0, 0))
  ents : w.ownsRow base 75 4 ve r.es.length (encE r.es)
  kids : w.ownsRow base 29 1 vc r.cs.length (encC r.cs)
  leaf : r.cs = [] → vc = .slice none 0 0
  ownr : w.heap[r.own]? = some (.cells #[.int .u8 0] 47 (0, 0))

structure RepP (base : Nat) (w : World) (σ : Nat → Option Nd) (ph : Nat → Value × Value) : Prop where
  nd : ∀ n r, σ n = some r → NodeAt base w n r (ph n).1 (ph n).2
  sepE : ∀ n r m s b, σ n = some r → σ m = some s → (ph n).1.ownBlock = some b → (ph m).1.ownBlock = some b → n = m
  sepC : ∀ n r m s b, σ n = some r → σ m = some s → (ph n).2.ownBlock = some b → (ph m).2.ownBlock = some b → n = m

def Rep (base : Nat) (w : World) (σ : Nat → Option Nd) : Prop := ∃ ph, RepP base w σ ph

def upd (σ : Nat → Option Nd) (n : Nat) (r : Nd) : Nat → Option Nd := fun m => if m = n then some r else σ m
theorem upd_same (σ : Nat → Option Nd) (n : Nat) (r : Nd) : upd σ n r n = some r := by simp [upd]
theorem upd_other (σ : Nat → Option Nd) (n : Nat) (r : Nd) {m : Nat} (h : m ≠ n) : upd σ n r m = σ m := by simp [upd, h]

/-- The world's blocks that bear nodes' tags. -/
structure Mut (base : Nat) (w w' : World) : Prop where
  below : Below base w w'
  oth : ∀ (b : Nat) c t fz, w.heap[b]? = some (.cells c t fz) → t ≠ 64 → t ≠ 75 → t ≠ 29 → w'.heap[b]? = some (.cells c t fz)

theorem Mut.refl (base : Nat) (w : World) : Mut base w w := ⟨Below.refl _ _, fun _ _ _ _ h _ _ _ => h⟩
theorem Mut.trans {base : Nat} {a b c : World} (h : Mut base a b) (k : Mut base b c) : Mut base a c :=
  ⟨h.below.trans k.below, fun x c t fz hx h1 h2 h3 => k.oth x c t fz (h.oth x c t fz hx h1 h2 h3) h1 h2 h3⟩
theorem Mut.drew {base : Nat} {a w : World} (h : Mut base a w) : Mut base a w.drew := ⟨h.below.drew, h.oth⟩
theorem Mut.size {base : Nat} {w w' : World} (h : Mut base w w') : w.heap.size ≤ w'.heap.size := h.below.size

theorem lt_of_heap {w : World} {b : Nat} {o : Obj} (h : w.heap[b]? = some o) : b < w.heap.size := (Array.getElem?_eq_some_iff.1 h).1

theorem Mut.alloc {base : Nat} (w : World) (o : Obj) (hb : base ≤ w.heap.size) : Mut base w (w.alloc o) :=
  ⟨(Below.refl _ _).alloc hb o, fun b c t fz h _ _ _ => by rw [Below.heap_alloc w o b (lt_of_heap h)]; exact h⟩
theorem Mut.grown {base : Nat} {w w' : World} {row : Option Nat} (hg : w.grownBy w' row) (hb : base ≤ w.heap.size)
    (hr : ∀ k, row = some k → base ≤ k ∧ ∃ c t fz, w.heap[k]? = some (.cells c t fz) ∧ (t = 64 ∨ t = 75 ∨ t = 29)) : Mut base w w' := by
  refine ⟨(Below.refl _ _).grown hg hb (fun k hk => (hr k hk).1), fun b c t fz h h1 h2 h3 => ?_⟩
  rw [hg.block b (lt_of_heap h) (fun e => ?_)]
  · exact h
  · obtain ⟨_, c', t', fz', h', ht⟩ := hr b e.symm
    rw [h] at h'
    cases h'
    rcases ht with rfl | rfl | rfl <;> simp_all
theorem Mut.setCell {base : Nat} {w : World} {a : Addr} (v : Value) (hb : base ≤ a.block) {c : Array Value} {t : TypeId} {fz : Nat × Nat} (h : w.heap[a.block]? = some (.cells c t fz)) (ht : t = 64 ∨ t = 75 ∨ t = 29) : Mut base w (w.setCell a v) := by
  refine ⟨(Below.refl _ _).setCell hb v, fun b c' t' fz' h' h1 h2 h3 => ?_⟩
  rw [Below.heap_setCell w a v b (fun e => ?_)]
  · exact h'
  · subst e
    rw [h] at h'
    cases h'
    rcases ht with rfl | rfl | rfl <;> simp_all

/-- What a slice of its own looks like: its block's tag. -/
theorem ownsRow_tag {w : World} {base : Nat} {e : TypeId} {size : Nat} {v : Value} {n : Nat} {xs : List Value} (h : w.ownsRow base e size v n xs) {b : Nat} (hb : v.ownBlock = some b) :
    base ≤ b ∧ ∃ c, w.heap[b]? = some (.cells c e (0, 0)) := by
  rcases h.2 with ⟨rfl, _⟩ | ⟨g, cap, cur, rfl, hbg, hg, _⟩
  · simp [Value.ownBlock] at hb
  · simp [Value.ownBlock] at hb
    subst hb
    exact ⟨hbg, cur, hg⟩
theorem ownsRow_keep {w w' : World} {base : Nat} {e : TypeId} {size : Nat} {v : Value} {n : Nat} {xs : List Value} (h : w.ownsRow base e size v n xs) (hk : ∀ b, v.ownBlock = some b → w'.heap[b]? = w.heap[b]?) : w'.ownsRow base e size v n xs := by
  refine ⟨h.1, ?_⟩
  rcases h.2 with hn | ⟨g, cap, cur, rfl, hbg, hg, rest⟩
  · exact .inl hn
  · exact .inr ⟨g, cap, cur, rfl, hbg, (hk g rfl).trans hg, rest⟩

theorem NodeAt.keep {base : Nat} {w w' : World} {n : Nat} {r : Nd} {ve vc : Value} (h : NodeAt base w n r ve vc) (hn : w'.heap[n]? = w.heap[n]?) (he : ∀ b, ve.ownBlock = some b → w'.heap[b]? = w.heap[b]?) (hc : ∀ b, vc.ownBlock = some b → w'.heap[b]? = w.heap[b]?) (ho : w'.heap[r.own]? = w.heap[r.own]?) : NodeAt base w' n r ve vc :=
  ⟨h.lo, hn.trans h.node, ownsRow_keep h.ents he, ownsRow_keep h.kids hc, h.leaf, ho.trans h.ownr⟩

/-- Whatever leaves the blocks with nodes' tags alone leaves the trees alone. -/
theorem RepP.keep {base : Nat} {w w' : World} {σ : Nat → Option Nd} {ph : Nat → Value × Value} (h : RepP base w σ ph)
    (hk : ∀ (b : Nat) c t fz, w.heap[b]? = some (.cells c t fz) → (t = 64 ∨ t = 75 ∨ t = 29 ∨ t = 47) → w'.heap[b]? = some (.cells c t fz)) : RepP base w' σ ph := by
  refine ⟨fun n r hr => ?_, h.sepE, h.sepC⟩
  have hn := h.nd n r hr
  refine hn.keep ?_ (fun b hb => ?_) (fun b hb => ?_) ?_
  · rw [hn.node]; exact hk _ _ _ _ hn.node (.inl rfl)
  · obtain ⟨_, c, hc⟩ := ownsRow_tag hn.ents hb
    rw [hc]; exact hk _ _ _ _ hc (.inr (.inl rfl))
  · obtain ⟨_, c, hc⟩ := ownsRow_tag hn.kids hb
    rw [hc]; exact hk _ _ _ _ hc (.inr (.inr (.inl rfl)))
  · rw [hn.ownr]; exact hk _ _ _ _ hn.ownr (.inr (.inr (.inr rfl)))
theorem Rep.keep {base : Nat} {w w' : World} {σ : Nat → Option Nd} (h : Rep base w σ)
    (hk : ∀ (b : Nat) c t fz, w.heap[b]? = some (.cells c t fz) → (t = 64 ∨ t = 75 ∨ t = 29 ∨ t = 47) → w'.heap[b]? = some (.cells c t fz)) : Rep base w' σ := by
  obtain ⟨ph, hp⟩ := h
  exact ⟨ph, hp.keep hk⟩
theorem Rep.below {base B : Nat} {w w' : World} {σ : Nat → Option Nd} (h : Rep base w σ) (hb : Below B w w') (hB : w.heap.size ≤ B) : Rep base w' σ :=
  h.keep fun b c t fz hc _ => by rw [hb.block b (Nat.lt_of_lt_of_le (lt_of_heap hc) hB)]; exact hc
theorem Rep.drew {base : Nat} {w : World} {σ : Nat → Option Nd} (h : Rep base w σ) : Rep base w.drew σ := h.keep fun _ _ _ _ hc _ => hc
theorem Rep.alloc {base : Nat} {w : World} {σ : Nat → Option Nd} (h : Rep base w σ) (o : Obj) : Rep base (w.alloc o) σ :=
  h.keep fun b c t fz hc _ => by rw [Below.heap_alloc w o b (lt_of_heap hc)]; exact hc
theorem Rep.lt {base : Nat} {w : World} {σ : Nat → Option Nd} (h : Rep base w σ) {n : Nat} {r : Nd} (hr : σ n = some r) : base ≤ n ∧ n < w.heap.size := by
  obtain ⟨ph, hp⟩ := h
  exact ⟨(hp.nd n r hr).lo, lt_of_heap (hp.nd n r hr).node⟩
theorem Rep.fresh {base : Nat} {w : World} {σ : Nat → Option Nd} (h : Rep base w σ) {n : Nat} (hn : w.heap.size ≤ n) : σ n = none := by
  cases hr : σ n with
  | none => rfl
  | some r => have := (h.lt hr).2; omega

/-- THE STEP: node n is laid anew; whatever else there is of the trees has been left alone. -/
theorem RepP.put {base : Nat} {w w' : World} {σ : Nat → Option Nd} {ph : Nat → Value × Value} (h : RepP base w σ ph) (n : Nat) (r : Nd) (ve vc : Value) (hn : NodeAt base w' n r ve vc)
    (hoth : ∀ m s, m ≠ n → σ m = some s → w'.heap[m]? = w.heap[m]? ∧ (∀ b, (ph m).1.ownBlock = some b → w'.heap[b]? = w.heap[b]? ∧ ve.ownBlock ≠ some b) ∧ (∀ b, (ph m).2.ownBlock = some b → w'.heap[b]? = w.heap[b]? ∧ vc.ownBlock ≠ some b) ∧ w'.heap[s.own]? = w.heap[s.own]?) :
    RepP base w' (upd σ n r) (fun m => if m = n then (ve, vc) else ph m) := by
  refine ⟨fun m s hs => ?_, fun a ra m s b ha hm hab hmb => ?_, fun a ra m s b ha hm hab hmb => ?_⟩
  · by_cases e : m = n
    · subst e
      rw [upd_same] at hs
      cases hs
      simpa using hn
    · rw [upd_other _ _ _ e] at hs
      simp only [e, if_false]
      obtain ⟨h1, h2, h3, h4⟩ := hoth m s e hs
      exact (h.nd m s hs).keep h1 (fun b hb => (h2 b hb).1) (fun b hb => (h3 b hb).1) h4
  · by_cases ea : a = n
    · by_cases em : m = n
      · rw [ea, em]
      · simp only [ea, if_true, em, if_false] at hab hmb
        rw [upd_other _ _ _ em] at hm
        exact absurd hab ((hoth m s em hm).2.1 b hmb).2
    · by_cases em : m = n
      · simp only [ea, em, if_true, if_false] at hab hmb
        rw [upd_other _ _ _ ea] at ha
        exact absurd hmb ((hoth a ra ea ha).2.1 b hab).2
      · simp only [ea, em, if_false] at hab hmb
        rw [upd_other _ _ _ ea] at ha
        rw [upd_other _ _ _ em] at hm
        exact h.sepE a ra m s b ha hm hab hmb
  · by_cases ea : a = n
    · by_cases em : m = n
      · rw [ea, em]
      · simp only [ea, if_true, em, if_false] at hab hmb
        rw [upd_other _ _ _ em] at hm
        exact absurd hab ((hoth m s em hm).2.2.1 b hmb).2
    · by_cases em : m = n
      · simp only [ea, em, if_true, if_false] at hab hmb
        rw [upd_other _ _ _ ea] at ha
        exact absurd hmb ((hoth a ra ea ha).2.2.1 b hab).2
      · simp only [ea, em, if_false] at hab hmb
        rw [upd_other _ _ _ ea] at ha
        rw [upd_other _ _ _ em] at hm
        exact h.sepC a ra m s b ha hm hab hmb


theorem grown_trans {w a b : World} {row : Option Nat} (h : w.grownBy a row) (k : a.grownBy b row) : w.grownBy b row :=
  ⟨k.os.trans h.os, k.tape.trans h.tape, k.output.trans h.output, Nat.le_trans h.size k.size, fun i hi hne => (k.block i (Nat.lt_of_lt_of_le hi h.size) hne).trans (h.block i hi hne)⟩
theorem grown_weak {w a : World} (row : Option Nat) (h : w.grownBy a none) : w.grownBy a row :=
  ⟨h.os, h.tape, h.output, h.size, fun i hi _ => h.block i hi (by simp)⟩
theorem grown_alloc {w : World} (o : Obj) (row : Option Nat) : w.grownBy (w.alloc o) row := World.grownBy_alloc w o row
theorem grown_drew {w a : World} {row : Option Nat} (h : w.grownBy a row) : w.grownBy a.drew row := ⟨h.os, h.tape, h.output, h.size, h.block⟩
theorem grown_refl (w : World) (row : Option Nat) : w.grownBy w row := ⟨rfl, rfl, rfl, Nat.le_refl _, fun _ _ _ => rfl⟩

theorem heap_setNode {w : World} {n k : Nat} {c : Array Value} {t : TypeId} (h : w.heap[n]? = some (.cells c t (0, 0))) (v : Value) : (w.setCell ⟨n, k, none⟩ v).heap[n]? = some (.cells (c.setIfInBounds k v) t (0, 0)) :=
  heap_setCell_same w n k c t v h

section
variable {base : Nat} {w w1 : World} {σ : Nat → Option Nd} {ph : Nat → Value × Value} {n : Nat} {r : Nd}

/-- Nothing of a node but its own entries' row turns where that row alone is written. -/
theorem RepP.offE (h : RepP base w σ ph) (hr : σ n = some r) (hg : w.grownBy w1 (ph n).1.ownBlock) :
    w1.heap[n]? = w.heap[n]? ∧ (∀ b, (ph n).2.ownBlock = some b → w1.heap[b]? = w.heap[b]?) ∧ (∀ m s, σ m = some s → w1.heap[s.own]? = w.heap[s.own]?) ∧
    ∀ m s, m ≠ n → σ m = some s → w1.heap[m]? = w.heap[m]? ∧ (∀ b, (ph m).1.ownBlock = some b → w1.heap[b]? = w.heap[b]?) ∧ (∀ b, (ph m).2.ownBlock = some b → w1.heap[b]? = w.heap[b]?) := by
  have hn := h.nd n r hr
  have key : ∀ (b : Nat) c t fz, w.heap[b]? = some (.cells c t fz) → t ≠ 75 → w1.heap[b]? = w.heap[b]? := fun b c t fz hb ht =>
    hg.block b (lt_of_heap hb) (fun e => by
      obtain ⟨_, c', hc'⟩ := ownsRow_tag hn.ents e.symm
      rw [hb] at hc'
      cases hc'
      exact ht rfl)
  have kids : ∀ m s, σ m = some s → ∀ b, (ph m).2.ownBlock = some b → w1.heap[b]? = w.heap[b]? := fun m s hs b hb => by
    obtain ⟨_, c, hc⟩ := ownsRow_tag (h.nd m s hs).kids hb
    exact key b _ _ _ hc (by decide)
  refine ⟨key n _ _ _ hn.node (by decide), kids n r hr, fun m s hs => key _ _ _ _ (h.nd m s hs).ownr (by decide), fun m s hm hs => ⟨key m _ _ _ (h.nd m s hs).node (by decide), fun b hb => ?_, kids m s hs⟩⟩
  obtain ⟨_, c, hc⟩ := ownsRow_tag (h.nd m s hs).ents hb
  exact hg.block b (lt_of_heap hc) (fun e => hm (h.sepE m s n r b hs hr hb e.symm))

theorem RepP.offC (h : RepP base w σ ph) (hr : σ n = some r) (hg : w.grownBy w1 (ph n).2.ownBlock) :
    w1.heap[n]? = w.heap[n]? ∧ (∀ b, (ph n).1.ownBlock = some b → w1.heap[b]? = w.heap[b]?) ∧ (∀ m s, σ m = some s → w1.heap[s.own]? = w.heap[s.own]?) ∧
    ∀ m s, m ≠ n → σ m = some s → w1.heap[m]? = w.heap[m]? ∧ (∀ b, (ph m).1.ownBlock = some b → w1.heap[b]? = w.heap[b]?) ∧ (∀ b, (ph m).2.ownBlock = some b → w1.heap[b]? = w.heap[b]?) := by
  have hn := h.nd n r hr
  have key : ∀ (b : Nat) c t fz, w.heap[b]? = some (.cells c t fz) → t ≠ 29 → w1.heap[b]? = w.heap[b]? := fun b c t fz hb ht =>
    hg.block b (lt_of_heap hb) (fun e => by
      obtain ⟨_, c', hc'⟩ := ownsRow_tag hn.kids e.symm
      rw [hb] at hc'
      cases hc'
      exact ht rfl)
  have ents : ∀ m s, σ m = some s → ∀ b, (ph m).1.ownBlock = some b → w1.heap[b]? = w.heap[b]? := fun m s hs b hb => by
    obtain ⟨_, c, hc⟩ := ownsRow_tag (h.nd m s hs).ents hb
    exact key b _ _ _ hc (by decide)
  refine ⟨key n _ _ _ hn.node (by decide), ents n r hr, fun m s hs => key _ _ _ _ (h.nd m s hs).ownr (by decide), fun m s hm hs => ⟨key m _ _ _ (h.nd m s hs).node (by decide), ents m s hs, fun b hb => ?_⟩⟩
  obtain ⟨_, c, hc⟩ := ownsRow_tag (h.nd m s hs).kids hb
  exact hg.block b (lt_of_heap hc) (fun e => hm (h.sepC m s n r b hs hr hb e.symm))

/-- A store into node n's block leaves every other block alone. -/
theorem setNode_other {n k : Nat} {v : Value} {b : Nat} (hb : b ≠ n) : (w1.setCell ⟨n, k, none⟩ v).heap[b]? = w1.heap[b]? := Below.heap_setCell w1 ⟨n, k, none⟩ v b hb

/-- n.entries = v, v a row of its own: the old one written, or a new one. -/
theorem RepP.setE (h : RepP base w σ ph) (hr : σ n = some r) (hg : w.grownBy w1 (ph n).1.ownBlock) (ve : Value) (es : List Nat) (hown : w1.ownsRow base 75 4 ve es.length (encE es))
    (hat : ∀ b, ve.ownBlock = some b → (ph n).1.ownBlock = some b ∨ w.heap.size ≤ b) :
    RepP base (w1.setCell ⟨n, 0, none⟩ ve) (upd σ n { r with es := es }) (fun m => if m = n then (ve, (ph n).2) else ph m) := by
  obtain ⟨o1, o2, o4, o3⟩ := h.offE hr hg
  have hn := h.nd n r hr
  have hnode : w1.heap[n]? = some (.cells #[(ph n).1, (ph n).2, .pointer (some ⟨r.own, 0, none⟩)] 64 (0, 0)) := o1.trans hn.node
  have hne : ∀ b, ve.ownBlock = some b → b ≠ n := fun b hb e => by
    obtain ⟨_, c, hc⟩ := ownsRow_tag hown hb
    rw [e, hnode] at hc
    cases hc
  have hnk : ∀ m s, σ m = some s → ∀ b, (ph m).2.ownBlock = some b → b ≠ n := fun m s hs b hb e => by
    obtain ⟨_, c, hc⟩ := ownsRow_tag (h.nd m s hs).kids hb
    rw [e, hn.node] at hc
    cases hc
  have hnke : ∀ m s, σ m = some s → ∀ b, (ph m).1.ownBlock = some b → b ≠ n := fun m s hs b hb e => by
    obtain ⟨_, c, hc⟩ := ownsRow_tag (h.nd m s hs).ents hb
    rw [e, hn.node] at hc
    cases hc
  have hno : ∀ m s, σ m = some s → s.own ≠ n := fun m s hs e => by
    have := (h.nd m s hs).ownr
    rw [e, hn.node] at this
    simp at this
  refine h.put n _ ve (ph n).2 ⟨hn.lo, ?_, ?_, ?_, hn.leaf, ((setNode_other (hno n r hr)).trans (o4 n r hr)).trans hn.ownr⟩ (fun m s hm hs => ?_)
  · rw [heap_setNode hnode]; rfl
  · exact ownsRow_keep hown (fun b hb => setNode_other (hne b hb))
  · exact ownsRow_keep hn.kids (fun b hb => (setNode_other (hnk n r hr b hb)).trans (o2 b hb))
  · obtain ⟨p1, p2, p3⟩ := o3 m s hm hs
    refine ⟨(setNode_other hm).trans p1, fun b hb => ⟨(setNode_other (hnke m s hs b hb)).trans (p2 b hb), fun e => ?_⟩, fun b hb => ⟨(setNode_other (hnk m s hs b hb)).trans (p3 b hb), fun e => hm (h.sepC m s n r b hs hr hb e)⟩, (setNode_other (hno m s hs)).trans (o4 m s hs)⟩
    obtain ⟨_, c, hc⟩ := ownsRow_tag (h.nd m s hs).ents hb
    rcases hat b e with e' | e'
    · exact hm (h.sepE m s n r b hs hr hb e')
    · have := lt_of_heap hc; omega

theorem RepP.setC (h : RepP base w σ ph) (hr : σ n = some r) (hg : w.grownBy w1 (ph n).2.ownBlock) (vc : Value) (cs : List Nat) (hown : w1.ownsRow base 29 1 vc cs.length (encC cs))
    (hat : ∀ b, vc.ownBlock = some b → (ph n).2.ownBlock = some b ∨ w.heap.size ≤ b) (hleaf : cs = [] → vc = .slice none 0 0) :
    RepP base (w1.setCell ⟨n, 1, none⟩ vc) (upd σ n { r with cs := cs }) (fun m => if m = n then ((ph n).1, vc) else ph m) := by
  obtain ⟨o1, o2, o4, o3⟩ := h.offC hr hg
  have hn := h.nd n r hr
  have hnode : w1.heap[n]? = some (.cells #[(ph n).1, (ph n).2, .pointer (some ⟨r.own, 0, none⟩)] 64 (0, 0)) := o1.trans hn.node
  have hne : ∀ b, vc.ownBlock = some b → b ≠ n := fun b hb e => by
    obtain ⟨_, c, hc⟩ := ownsRow_tag hown hb
    rw [e, hnode] at hc
    cases hc
  have hnk : ∀ m s, σ m = some s → ∀ b, (ph m).2.ownBlock = some b → b ≠ n := fun m s hs b hb e => by
    obtain ⟨_, c, hc⟩ := ownsRow_tag (h.nd m s hs).kids hb
    rw [e, hn.node] at hc
    cases hc
  have hnke : ∀ m s, σ m = some s → ∀ b, (ph m).1.ownBlock = some b → b ≠ n := fun m s hs b hb e => by
    obtain ⟨_, c, hc⟩ := ownsRow_tag (h.nd m s hs).ents hb
    rw [e, hn.node] at hc
    cases hc
  have hno : ∀ m s, σ m = some s → s.own ≠ n := fun m s hs e => by
    have := (h.nd m s hs).ownr
    rw [e, hn.node] at this
    simp at this
  refine h.put n _ (ph n).1 vc ⟨hn.lo, ?_, ?_, ?_, hleaf, ((setNode_other (hno n r hr)).trans (o4 n r hr)).trans hn.ownr⟩ (fun m s hm hs => ?_)
  · rw [heap_setNode hnode]; rfl
  · exact ownsRow_keep hn.ents (fun b hb => (setNode_other (hnke n r hr b hb)).trans (o2 b hb))
  · exact ownsRow_keep hown (fun b hb => setNode_other (hne b hb))
  · obtain ⟨p1, p2, p3⟩ := o3 m s hm hs
    refine ⟨(setNode_other hm).trans p1, fun b hb => ⟨(setNode_other (hnke m s hs b hb)).trans (p2 b hb), fun e => hm (h.sepE m s n r b hs hr hb e)⟩, fun b hb => ⟨(setNode_other (hnk m s hs b hb)).trans (p3 b hb), fun e => ?_⟩, (setNode_other (hno m s hs)).trans (o4 m s hs)⟩
    obtain ⟨_, c, hc⟩ := ownsRow_tag (h.nd m s hs).kids hb
    rcases hat b e with e' | e'
    · exact hm (h.sepC m s n r b hs hr hb e')
    · have := lt_of_heap hc; omega

/-- The entries' row written in place. -/
theorem RepP.rowE (h : RepP base w σ ph) (hr : σ n = some r) (hg : w.grownBy w1 (ph n).1.ownBlock) (es : List Nat) (hown : w1.ownsRow base 75 4 (ph n).1 es.length (encE es)) :
    RepP base w1 (upd σ n { r with es := es }) (fun m => if m = n then ((ph n).1, (ph n).2) else ph m) := by
  obtain ⟨o1, o2, o4, o3⟩ := h.offE hr hg
  have hn := h.nd n r hr
  refine h.put n _ (ph n).1 (ph n).2 ⟨hn.lo, o1.trans hn.node, hown, ownsRow_keep hn.kids o2, hn.leaf, (o4 n r hr).trans hn.ownr⟩ (fun m s hm hs => ?_)
  obtain ⟨p1, p2, p3⟩ := o3 m s hm hs
  exact ⟨p1, fun b hb => ⟨p2 b hb, fun e => hm (h.sepE m s n r b hs hr hb e)⟩, fun b hb => ⟨p3 b hb, fun e => hm (h.sepC m s n r b hs hr hb e)⟩, o4 m s hs⟩
theorem RepP.rowC (h : RepP base w σ ph) (hr : σ n = some r) (hg : w.grownBy w1 (ph n).2.ownBlock) (cs : List Nat) (hown : w1.ownsRow base 29 1 (ph n).2 cs.length (encC cs)) (hleaf : cs = [] → (ph n).2 = .slice none 0 0) :
    RepP base w1 (upd σ n { r with cs := cs }) (fun m => if m = n then ((ph n).1, (ph n).2) else ph m) := by
  obtain ⟨o1, o2, o4, o3⟩ := h.offC hr hg
  have hn := h.nd n r hr
  refine h.put n _ (ph n).1 (ph n).2 ⟨hn.lo, o1.trans hn.node, ownsRow_keep hn.ents o2, hown, hleaf, (o4 n r hr).trans hn.ownr⟩ (fun m s hm hs => ?_)
  obtain ⟨p1, p2, p3⟩ := o3 m s hm hs
  exact ⟨p1, fun b hb => ⟨p2 b hb, fun e => hm (h.sepE m s n r b hs hr hb e)⟩, fun b hb => ⟨p3 b hb, fun e => hm (h.sepC m s n r b hs hr hb e)⟩, o4 m s hs⟩

/-- A new node. -/
theorem RepP.new (h : RepP base w σ ph) (hg : w.grownBy w1 none) (r : Nd) (ve vc : Value) (he : w1.ownsRow base 75 4 ve r.es.length (encE r.es)) (hc : w1.ownsRow base 29 1 vc r.cs.length (encC r.cs))
    (hae : ∀ b, ve.ownBlock = some b → w.heap.size ≤ b) (hac : ∀ b, vc.ownBlock = some b → w.heap.size ≤ b) (hleaf : r.cs = [] → vc = .slice none 0 0) (hbase : base ≤ w.heap.size) (ho : w.heap[r.own]? = some (.cells #[.int .u8 0] 47 (0, 0))) :
    RepP base (w1.alloc (.cells #[ve, vc, .pointer (some ⟨r.own, 0, none⟩)] 64)) (upd σ w1.heap.size r) (fun m => if m = w1.heap.size then (ve, vc) else ph m) := by
  have hsz := hg.size
  have hk : ∀ b, b < w.heap.size → (w1.alloc (.cells #[ve, vc, .pointer (some ⟨r.own, 0, none⟩)] 64)).heap[b]? = w.heap[b]? := fun b hb =>
    (Below.heap_alloc w1 _ b (by omega)).trans (hg.block b hb (by simp))
  refine h.put w1.heap.size r ve vc ⟨by omega, heap_alloc_new w1 _, he.alloc _, hc.alloc _, hleaf, (hk _ (lt_of_heap ho)).trans ho⟩ (fun m s hm hs => ?_)
  refine ⟨hk m (lt_of_heap (h.nd m s hs).node), fun b hb => ?_, fun b hb => ?_, hk _ (lt_of_heap (h.nd m s hs).ownr)⟩
  · obtain ⟨_, c, hcc⟩ := ownsRow_tag (h.nd m s hs).ents hb
    exact ⟨hk b (lt_of_heap hcc), fun e => by have := hae b e; have := lt_of_heap hcc; omega⟩
  · obtain ⟨_, c, hcc⟩ := ownsRow_tag (h.nd m s hs).kids hb
    exact ⟨hk b (lt_of_heap hcc), fun e => by have := hac b e; have := lt_of_heap hcc; omega⟩
end

end Go.Proofs.Qxb6001038a
