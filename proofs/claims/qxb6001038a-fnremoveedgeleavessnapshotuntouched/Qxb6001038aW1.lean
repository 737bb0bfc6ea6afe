import Derived.Test.Qxb6001038aStp
import Derived.Test.Qxb6001038aB3
namespace Go.Proofs.Qxb6001038a
open Go.RowKit
set_option linter.unusedVariables false
attribute [local go_sem ↓] Go.wp_at_zero Go.wp_at_succ

def encK (ks : List Nat) : List Value := ks.map fun (k : Nat) => .string (p6 k)
def encI (ks : List Nat) : List Value := ks.map fun (k : Nat) => .int .u64 k
theorem encK_len (ks : List Nat) : (encK ks).length = ks.length := by simp [encK]
theorem encI_len (ks : List Nat) : (encI ks).length = ks.length := by simp [encI]

/-- The walker in its block: the keys ks and the indices ix gathered so far. -/
structure Wk (base : Nat) (w : World) (wb : Nat) (vk vi : Value) (ks ix : List Nat) (ld : Int) : Prop where
  lo : base ≤ wb
  blk : w.heap[wb]? = some (.cells #[vk, vi, .int .i64 ld, .bool true] 57 (0, 0))
  keys : w.ownsRow base 9 1 vk ks.length (encK ks)
  idx : w.ownsRow base 60 1 vi ix.length (encI ix)

structure MutW (base : Nat) (w w' : World) : Prop where
  below : Below base w w'
  oth : ∀ (b : Nat) c t fz, w.heap[b]? = some (.cells c t fz) → t ≠ 57 → t ≠ 9 → t ≠ 60 → w'.heap[b]? = some (.cells c t fz)
theorem MutW.refl (base : Nat) (w : World) : MutW base w w := ⟨Below.refl _ _, fun _ _ _ _ h _ _ _ => h⟩
theorem MutW.trans {base : Nat} {a b c : World} (h : MutW base a b) (k : MutW base b c) : MutW base a c :=
  ⟨h.below.trans k.below, fun x c t fz hx h1 h2 h3 => k.oth x c t fz (h.oth x c t fz hx h1 h2 h3) h1 h2 h3⟩
theorem Rep.mutW {base : Nat} {w w' : World} {σ : Nat → Option Nd} (h : Rep base w σ) (hm : MutW base w w') : Rep base w' σ :=
  h.keep fun b c t fz hc ht => hm.oth b c t fz hc (by rcases ht with rfl | rfl | rfl | rfl <;> decide) (by rcases ht with rfl | rfl | rfl | rfl <;> decide) (by rcases ht with rfl | rfl | rfl | rfl <;> decide)

section
variable {base : Nat} {w w1 : World} {wb : Nat} {vk vi : Value} {ks ix : List Nat} {ld : Int}

theorem Wk.c0 (h : Wk base w wb vk vi ks ix ld) : w.cell? ⟨wb, 0, none⟩ = some vk := by rw [cell_of_row w wb 0 _ 57 _ h.blk]; rfl
theorem Wk.c1 (h : Wk base w wb vk vi ks ix ld) : w.cell? ⟨wb, 1, none⟩ = some vi := by rw [cell_of_row w wb 1 _ 57 _ h.blk]; rfl
theorem Wk.c2 (h : Wk base w wb vk vi ks ix ld) : w.cell? ⟨wb, 2, none⟩ = some (.int .i64 ld) := by rw [cell_of_row w wb 2 _ 57 _ h.blk]; rfl
theorem Wk.c3 (h : Wk base w wb vk vi ks ix ld) : w.cell? ⟨wb, 3, none⟩ = some (.bool true) := by rw [cell_of_row w wb 3 _ 57 _ h.blk]; rfl
theorem Wk.fz (h : Wk base w wb vk vi ks ix ld) (j : Nat) : w.frozen? ⟨wb, j, none⟩ = false := frozen_of_row w wb j _ 57 h.blk

/-- A row of another tag than e, or another block than v's, is not v's row. -/
theorem off_row {e : TypeId} {size : Nat} {v : Value} {n : Nat} {xs : List Value} (h : w.ownsRow base e size v n xs) (hg : w.grownBy w1 v.ownBlock) {b : Nat} {c : Array Value} {t : TypeId} {fz : Nat × Nat} (hb : w.heap[b]? = some (.cells c t fz)) (ht : t ≠ e) : w1.heap[b]? = some (.cells c t fz) := by
  rw [hg.block b (lt_of_heap hb) (fun e' => ?_)]
  · exact hb
  · obtain ⟨_, c', hc'⟩ := ownsRow_tag h e'.symm
    rw [hb] at hc'
    cases hc'
    exact ht rfl

theorem Wk.pushK (h : Wk base w wb vk vi ks ix ld) (hg : w.grownBy w1 vk.ownBlock) (vk' : Value) (k : Nat) (hown : w1.ownsRow base 9 1 vk' (ks.length + 1) (encK ks ++ [.string (p6 k)])) (hbase : base ≤ w.heap.size) :
    Wk base (w1.setCell ⟨wb, 0, none⟩ vk') wb vk' vi (ks ++ [k]) ix ld ∧ MutW base w (w1.setCell ⟨wb, 0, none⟩ vk') := by
  have hblk := off_row h.keys hg h.blk (by decide)
  have hne : ∀ (b : Nat) c t fz, w1.heap[b]? = some (.cells c t fz) → t ≠ 57 → b ≠ wb := fun b c t fz hb ht e => by
    rw [e, hblk] at hb
    cases hb
    exact ht rfl
  refine ⟨⟨h.lo, by rw [heap_setNode hblk]; rfl, ?_, ?_⟩, ⟨?_, fun b c t fz hb h1 h2 h3 => ?_⟩⟩
  · have : (ks ++ [k]).length = ks.length + 1 := by simp
    rw [this, show encK (ks ++ [k]) = encK ks ++ [.string (p6 k)] by simp [encK]]
    refine ownsRow_keep hown (fun b hb => setNode_other ?_)
    obtain ⟨_, c, hc⟩ := ownsRow_tag hown hb
    exact hne b _ _ _ hc (by decide)
  · refine ownsRow_keep h.idx (fun b hb => ?_)
    obtain ⟨_, c, hc⟩ := ownsRow_tag h.idx hb
    have hc1 := off_row h.keys hg hc (by decide)
    rw [hc, setNode_other (hne b _ _ _ hc1 (by decide))]
    exact hc1
  · refine ((Below.refl _ _).grown hg hbase (fun k hk => (ownsRow_tag h.keys hk).1)).setCell h.lo _
  · have hb1 := off_row h.keys hg hb h2
    rw [setNode_other (hne b _ _ _ hb1 h1)]
    exact hb1
theorem Wk.pushI (h : Wk base w wb vk vi ks ix ld) (hg : w.grownBy w1 vi.ownBlock) (vi' : Value) (k : Nat) (hown : w1.ownsRow base 60 1 vi' (ix.length + 1) (encI ix ++ [.int .u64 k])) (hbase : base ≤ w.heap.size) :
    Wk base (w1.setCell ⟨wb, 1, none⟩ vi') wb vk vi' ks (ix ++ [k]) ld ∧ MutW base w (w1.setCell ⟨wb, 1, none⟩ vi') := by
  have hblk := off_row h.idx hg h.blk (by decide)
  have hne : ∀ (b : Nat) c t fz, w1.heap[b]? = some (.cells c t fz) → t ≠ 57 → b ≠ wb := fun b c t fz hb ht e => by
    rw [e, hblk] at hb
    cases hb
    exact ht rfl
  refine ⟨⟨h.lo, by rw [heap_setNode hblk]; rfl, ?_, ?_⟩, ⟨?_, fun b c t fz hb h1 h2 h3 => ?_⟩⟩
  · refine ownsRow_keep h.keys (fun b hb => ?_)
    obtain ⟨_, c, hc⟩ := ownsRow_tag h.keys hb
    have hc1 := off_row h.idx hg hc (by decide)
    rw [hc, setNode_other (hne b _ _ _ hc1 (by decide))]
    exact hc1
  · have : (ix ++ [k]).length = ix.length + 1 := by simp
    rw [this, show encI (ix ++ [k]) = encI ix ++ [.int .u64 k] by simp [encI]]
    refine ownsRow_keep hown (fun b hb => setNode_other ?_)
    obtain ⟨_, c, hc⟩ := ownsRow_tag hown hb
    exact hne b _ _ _ hc (by decide)
  · refine ((Below.refl _ _).grown hg hbase (fun k hk => (ownsRow_tag h.idx hk).1)).setCell h.lo _
  · have hb1 := off_row h.idx hg hb h3
    rw [setNode_other (hne b _ _ _ hb1 h1)]
    exact hb1
theorem Wk.setLd (h : Wk base w wb vk vi ks ix ld) (d : Int) (hbase : base ≤ w.heap.size) :
    Wk base (w.setCell ⟨wb, 2, none⟩ (.int .i64 d)) wb vk vi ks ix d ∧ MutW base w (w.setCell ⟨wb, 2, none⟩ (.int .i64 d)) := by
  have hne : ∀ (b : Nat) c t fz, w.heap[b]? = some (.cells c t fz) → t ≠ 57 → b ≠ wb := fun b c t fz hb ht e => by
    rw [e, h.blk] at hb
    cases hb
    exact ht rfl
  refine ⟨⟨h.lo, by rw [heap_setNode h.blk]; rfl, ownsRow_keep h.keys (fun b hb => setNode_other ?_), ownsRow_keep h.idx (fun b hb => setNode_other ?_)⟩, ⟨(Below.refl _ _).setCell h.lo _, fun b c t fz hb h1 h2 h3 => ?_⟩⟩
  · obtain ⟨_, c, hc⟩ := ownsRow_tag h.keys hb
    exact hne b _ _ _ hc (by decide)
  · obtain ⟨_, c, hc⟩ := ownsRow_tag h.idx hb
    exact hne b _ _ _ hc (by decide)
  · rw [setNode_other (hne b _ _ _ hb h1)]
    exact hb
end

theorem index_any (n b i : Nat) (len cap : Nat) (k : Int) (w : World) (h : w.cell? ⟨n, 0, none⟩ = some (.slice (some ⟨b, 0, none⟩) len cap)) (hi : i < len)
    (hc : w.cell? ⟨b, i * 4 + 2, none⟩ = some (.int .u64 k)) :
    Calls Try.prog 45 #[.pointer (some ⟨n, 0, none⟩), .int .i64 i] w fun e w' => e = .returned (.int .u64 k) ∧ w' = w := by
  go_enter Try.func45, Try.ntmps45
  go_wp2
  go_ret
  exact ⟨rfl, rfl⟩

end Go.Proofs.Qxb6001038a
