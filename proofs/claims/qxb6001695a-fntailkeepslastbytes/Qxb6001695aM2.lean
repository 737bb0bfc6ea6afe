import Derived.Test.Qxb6001695aK3
namespace Go.Proofs.Qxb6001695a
open Go.RowKit
set_option linter.unusedVariables false
set_option linter.unusedSimpArgs false
attribute [local go_sem ↓] Go.wp_at_zero Go.wp_at_succ

/-- One round. -/
theorem LI.step2 {N0 len k A G g c : Nat} {w wr W2 : World} {S : Nat → ByteArray} {p : Option Addr} {row : Option Nat} {cur : Array Value} (h : LI N0 w S len p c A G k row wr) (hk : k < len) (hN : N0 ≤ wr.heap.size)
    (hT : TS W2 A (some g) (tl (tl (cat S k) ++ (S k).data.toList)) (tot S k + (S k).size)) (hg : row = some g ∨ (row = none ∧ g = wr.heap.size + 1)) (hos : W2.os = wr.os) (htp : W2.tape = wr.tape) (hou : W2.output = wr.output) (hsz : wr.heap.size + 1 ≤ W2.heap.size) (hold : ∀ b, b < wr.heap.size → b ≠ A → b ≠ g → W2.heap[b]? = wr.heap[b]?) (hcur : W2.heap[G]? = some (.cells cur 5 (0, 0))) (hc1 : cur.size = tot S len) (hc2 : cur.toList.take (tot S k) = encB (cat S k)) :
    LI N0 w S len p c A G (k + 1) (some g) (W2.setRow G (cur.toList.take (tot S k) ++ ((S k).data.toList.map fun b => Value.int .u8 (b.toNat : Int)) ++ cur.toList.drop (tot S k + (S k).size)).toArray) := by
  obtain ⟨vA, hA⟩ := h.ts.blk
  have hAl := lt_of_heap hA
  obtain ⟨cG, hcG, _⟩ := h.whole
  have hGl := lt_of_heap hcG
  have hAG : A ≠ G := heap_ne hA hcG (by decide)
  have hgG : g ≠ G := by
    rcases hg with e | ⟨_, e⟩
    · exact fun e' => h.rG (by rw [e, e'])
    · omega
  have hNg : N0 ≤ g := by
    rcases hg with e | ⟨_, e⟩
    · exact h.rN g e
    · omega
  have hm := tot_mono S (k + 1) len (by omega)
  have hle : tot S k + (S k).size ≤ tot S len := hm
  refine ⟨?_, ?_, ?_, fun e => hgG (Option.some.inj e), fun g' e => by cases e; exact hNg, ⟨_, setRow_heap W2 G cur _ 5 _ hcur, ?_, ?_⟩, h.nA, h.nG⟩
  · refine h.bel.trans ⟨hos, htp, hou, ?_, fun b hb => ?_⟩
    · have e : (W2.setRow G (cur.toList.take (tot S k) ++ ((S k).data.toList.map fun b => Value.int .u8 (b.toNat : Int)) ++ cur.toList.drop (tot S k + (S k).size)).toArray).heap.size = W2.heap.size := by simp [World.setRow]
      rw [e]
      omega
    · have hnA := h.nA
      have hnG := h.nG
      rw [setRow_other W2 G b _ (by omega)]
      exact hold b (by omega) (by omega) (by omega)
  · refine h.str.keep fun b cs hb => ?_
    have hbl := lt_of_heap hb
    have h1 : b ≠ A := heap_ne hb hA (by decide)
    have h2 : b ≠ G := heap_ne hb hcG (by decide)
    have h3 : b ≠ g := by
      rcases hg with e | ⟨_, e⟩
      · obtain ⟨c, hc⟩ := h.ts.row_tag e
        exact heap_ne hb hc (by decide)
      · omega
    rw [setRow_other W2 G b _ h2, hold b hbl h1 h3]
    exact hb
  · have : tl (tl (cat S k) ++ (S k).data.toList) = tl (cat S (k + 1)) := tl_tl _ _
    rw [this] at hT
    exact hT.keep (setRow_other W2 G A _ hAG) (fun g' e => by cases e; exact setRow_other W2 G g _ hgG)
  · have : (S k).data.size = (S k).size := rfl
    simp [hc1]
    omega
  · have e1 : (cur.toList.take (tot S k)).length = tot S k := by rw [List.length_take, Array.length_toList, hc1]; omega
    have e2 : ((S k).data.toList.map fun b : UInt8 => Value.int .u8 (b.toNat : Int)) = encB (S k).data.toList := rfl
    rw [List.toList_toArray, e2, hc2, ← encB_append]
    have e3 : (encB (cat S k ++ (S k).data.toList)).length = tot S (k + 1) := by rw [encB_len]; exact cat_len S (k + 1)
    rw [List.take_append_of_le_length (by rw [e3]; exact Nat.le_refl _), List.take_of_length_le (by rw [e3]; exact Nat.le_refl _)]
    rfl

theorem LI.heap {N0 len k A G c : Nat} {w wr W5 : World} {S : Nat → ByteArray} {p : Option Addr} {row : Option Nat} (h : LI N0 w S len p c A G k row wr) (he : W5.heap = wr.heap) (hB : Below wr.heap.size wr W5) (hN : N0 ≤ wr.heap.size) : LI N0 w S len p c A G k row W5 := by
  have hh : ∀ b : Nat, W5.heap[b]? = wr.heap[b]? := fun b => by rw [he]
  obtain ⟨cur, c1, c2, c3⟩ := h.whole
  exact ⟨h.bel.trans (hB.mono hN), h.str.keep (fun b cs hb => (hh b).trans hb), h.ts.keep (hh _) (fun g _ => hh g), h.rG, h.rN, ⟨cur, (hh _).trans c1, c2, c3⟩, h.nA, h.nG⟩

/-- While p is spoilt. -/
structure Mid (W2 : World) (pb z : Nat) (wr : World) : Prop where
  os : wr.os = W2.os
  tape : wr.tape = W2.tape
  output : wr.output = W2.output
  size : wr.heap.size = W2.heap.size
  old : ∀ b, b ≠ pb → wr.heap[b]? = W2.heap[b]?
  cells : ∀ j, j < z → ∃ v : Int, wr.cell? ⟨pb, j, none⟩ = some (.int .u8 v)
  froz : ∀ j, j < z → wr.frozen? ⟨pb, j, none⟩ = false
theorem Mid.set {W2 wr : World} {pb z i : Nat} {v : Int} (h : Mid W2 pb z wr) (hi : i < z) : Mid W2 pb z (wr.setCell ⟨pb, i, none⟩ (.int .u8 v)) := by
  refine ⟨h.os, h.tape, h.output, (World.size_setCell _ _ _).trans h.size, fun b hb => (set_heap (by exact hb)).trans (h.old b hb), fun j hj => ?_, fun j hj => ?_⟩
  · by_cases e : j = i
    · subst e
      obtain ⟨u, hu⟩ := h.cells j hj
      exact ⟨v, World.cell?_setCell_same wr _ _ hu⟩
    · obtain ⟨u, hu⟩ := h.cells j hj
      exact ⟨u, (World.cell?_setCell_other wr _ _ _ (show (⟨pb, i, none⟩ : Addr) ≠ ⟨pb, j, none⟩ by intro e'; cases e'; exact e rfl)).trans hu⟩
  · rw [World.frozen?_setCell]
    exact h.froz j hj

end Go.Proofs.Qxb6001695a
