import Derived.Test.Qxb6001695aL3
namespace Go.Proofs.Qxb6001695a
open Go.RowKit
set_option linter.unusedVariables false
set_option linter.unusedSimpArgs false

theorem heap_ne {W : World} {a b : Nat} {c c' : Array Value} {t t' : TypeId} {f f' : Nat × Nat} (h : W.heap[a]? = some (.cells c t f)) (h' : W.heap[b]? = some (.cells c' t' f')) (ht : t ≠ t') : a ≠ b := fun e => by
  rw [e, h'] at h
  cases h
  exact ht rfl

theorem TS.blk {w : World} {T : Nat} {row : Option Nat} {bs : List UInt8} {n : Nat} (h : TS w T row bs n) : ∃ v, w.heap[T]? = some (.cells #[v, .int .i64 n] 28 (0, 0)) := by
  rcases h with ⟨_, _, h⟩ | ⟨g, _, h, _⟩
  · exact ⟨_, h⟩
  · exact ⟨_, h.blk⟩
theorem TS.keep {w w' : World} {T : Nat} {row : Option Nat} {bs : List UInt8} {n : Nat} (h : TS w T row bs n) (hT : w'.heap[T]? = w.heap[T]?) (hr : ∀ g, row = some g → w'.heap[g]? = w.heap[g]?) : TS w' T row bs n := by
  rcases h with ⟨h1, h2, h3⟩ | ⟨g, h1, h2, h3⟩
  · exact .inl ⟨h1, h2, hT.trans h3⟩
  · obtain ⟨c, c1, c2, c3⟩ := h2.row
    exact .inr ⟨g, h1, ⟨hT.trans h2.blk, ⟨c, (hr g h1).trans c1, c2, c3⟩, h2.le⟩, h3⟩
theorem TS.row_tag {w : World} {T g : Nat} {row : Option Nat} {bs : List UInt8} {n : Nat} (h : TS w T row bs n) (hr : row = some g) : ∃ c, w.heap[g]? = some (.cells c 5 (0, 0)) := by
  rcases h with ⟨h1, _⟩ | ⟨g', h1, h2, _⟩
  · rw [h1] at hr; cases hr
  · rw [h1] at hr
    cases hr
    obtain ⟨c, c1, _⟩ := h2.row
    exact ⟨c, c1⟩

/-- The clone's row of strings. -/
def Strs (N0 : Nat) (w : World) (S : Nat → ByteArray) (len : Nat) (p : Option Addr) (c : Nat) : Prop :=
  (p = none ∧ len = 0 ∧ c = 0) ∨ ∃ C cs, p = some ⟨C, 0, none⟩ ∧ N0 ≤ C ∧ w.heap[C]? = some (.cells cs 9 (0, 0)) ∧ ∀ i, i < len → cs[i]? = some (.string (S i))
theorem Strs.keep {N0 : Nat} {w w' : World} {S : Nat → ByteArray} {len c : Nat} {p : Option Addr} (h : Strs N0 w S len p c) (hk : ∀ (b : Nat) (cs : Array Value), w.heap[b]? = some (Obj.cells cs 9 (0, 0)) → w'.heap[b]? = some (Obj.cells cs 9 (0, 0))) : Strs N0 w' S len p c := by
  rcases h with h | ⟨C, cs, h1, h2, h3, h4⟩
  · exact .inl h
  · exact .inr ⟨C, cs, h1, h2, hk C cs h3, h4⟩
theorem Strs.cell {N0 : Nat} {w : World} {S : Nat → ByteArray} {len c : Nat} {C k : Nat} (h : Strs N0 w S len (some ⟨C, 0, none⟩) c) (hk : k < len) : w.cell? ⟨C, k, none⟩ = some (.string (S k)) := by
  rcases h with ⟨h, _⟩ | ⟨C', cs, h1, h2, h3, h4⟩
  · cases h
  cases h1
  rw [cell_of_row w C k cs 9 _ h3]
  exact h4 k hk

/-- What stands at the loop's head. -/
structure LI (N0 : Nat) (w : World) (S : Nat → ByteArray) (len : Nat) (p : Option Addr) (c : Nat) (A G : Nat) (k : Nat) (row : Option Nat) (wr : World) : Prop where
  bel : Below N0 w wr
  str : Strs N0 wr S len p c
  ts : TS wr A row (tl (cat S k)) (tot S k)
  rG : row ≠ some G
  rN : ∀ g, row = some g → N0 ≤ g
  whole : ∃ cur : Array Value, wr.heap[G]? = some (.cells cur 5 (0, 0)) ∧ cur.size = tot S len ∧ cur.toList.take (tot S k) = encB (cat S k)
  nA : N0 ≤ A
  nG : N0 ≤ G

/-- The world in which the chunk's bytes lie. -/
structure Put (wr W1 : World) (pb : Nat) (bs : List UInt8) : Prop where
  pbd : pb = wr.heap.size
  size : W1.heap.size = wr.heap.size + 1
  os : W1.os = wr.os
  tape : W1.tape = wr.tape
  output : W1.output = wr.output
  old : ∀ b, b < wr.heap.size → W1.heap[b]? = wr.heap[b]?
  src : ∀ j v, (encB bs)[j]? = some v → W1.cell? ⟨pb, j, none⟩ = some v

theorem put_bytes (w : World) (s : ByteArray) : ∃ W1 cp, (convert 9 26 (.string s)).run Try.prog w = .ok (.slice (some ⟨w.heap.size, 0, none⟩) s.size cp) W1 ∧ s.size ≤ cp ∧ Put w W1 w.heap.size s.data.toList ∧ ∀ i, i < s.size → W1.frozen? ⟨w.heap.size, i, none⟩ = false := by
  have h := run_bytes_of_string (P := Try.prog) w 9 26 5 s Try.underlying9 Try.underlying26 Try.underlying5
  have hge := grownCap_ge w s.size 0 5
  have hsz : (bytesRow s (grownCap w s.size 0 5)).size = grownCap w s.size 0 5 := by
    have : s.data.size = s.size := rfl
    simp [bytesRow]; omega
  refine ⟨_, _, h, hge, ⟨rfl, by simp, rfl, rfl, rfl, fun b hb => Below.heap_alloc w.drew _ b hb, fun j v hj => ?_⟩, fun i hi => ?_⟩
  · have hlt : j < s.data.size := by
      have := (List.getElem?_eq_some_iff.1 hj).1
      simpa [encB] using this
    have h1 := World.cell?_alloc_mark w.drew (bytesRow s (grownCap w s.size 0 5)) 5 ((bytesRow s (grownCap w s.size 0 5)).size, (bytesRow s (grownCap w s.size 0 5)).size + 1) j
    rw [bytesRow_at s _ j hlt] at h1
    have h2 : (encB s.data.toList)[j]? = some (.int .u8 (s.data[j].toNat : Int)) := by simp only [encB, List.getElem?_map]; rw [List.getElem?_eq_getElem (by simpa using hlt)]; simp
    rw [h2] at hj
    cases hj
    exact h1
  · have h1 := World.frozen?_alloc_mark w.drew (bytesRow s (grownCap w s.size 0 5)) 5 ((bytesRow s (grownCap w s.size 0 5)).size) ((bytesRow s (grownCap w s.size 0 5)).size + 1) i
    rw [show (w.heap.size) = w.drew.heap.size from rfl, h1, hsz]
    simp
    omega

/-- One round. -/
theorem LI.step {N0 len k A G g c : Nat} {w wr W1 W2 : World} {S : Nat → ByteArray} {p : Option Addr} {row : Option Nat} {cur : Array Value} (h : LI N0 w S len p c A G k row wr) (hk : k < len) (hP : Put wr W1 wr.heap.size (S k).data.toList) (hN : N0 ≤ wr.heap.size)
    (hT : TS W2 A (some g) (tl (tl (cat S k) ++ (S k).data.toList)) (tot S k + (S k).size)) (hg : row = some g ∨ (row = none ∧ g = W1.heap.size)) (hF : Fr W1 W2 A g) (hcur : W2.heap[G]? = some (.cells cur 5 (0, 0))) (hc1 : cur.size = tot S len) (hc2 : cur.toList.take (tot S k) = encB (cat S k)) :
    LI N0 w S len p c A G (k + 1) (some g) (W2.setRow G (cur.toList.take (tot S k) ++ ((S k).data.toList.map fun b => Value.int .u8 (b.toNat : Int)) ++ cur.toList.drop (tot S k + (S k).size)).toArray) := by
  obtain ⟨vA, hA⟩ := h.ts.blk
  have hAl := lt_of_heap hA
  obtain ⟨cG, hcG, _⟩ := h.whole
  have hGl := lt_of_heap hcG
  have hAG : A ≠ G := heap_ne hA hcG (by decide)
  have hgG : g ≠ G := by
    rcases hg with e | ⟨_, e⟩
    · exact fun e' => h.rG (by rw [e, e'])
    · rw [e, hP.size]; omega
  have hNg : N0 ≤ g := by
    rcases hg with e | ⟨_, e⟩
    · exact h.rN g e
    · rw [e, hP.size]; omega
  have hold : ∀ b, b < wr.heap.size → b ≠ A → b ≠ g → W2.heap[b]? = wr.heap[b]? := fun b hb h1 h2 => (hF.block b (by rw [hP.size]; omega) h1 h2).trans (hP.old b hb)
  have hm := tot_mono S (k + 1) len (by omega)
  have hle : tot S k + (S k).size ≤ tot S len := hm
  refine ⟨?_, ?_, ?_, fun e => hgG (Option.some.inj e), fun g' e => by cases e; exact hNg, ⟨_, setRow_heap W2 G cur _ 5 _ hcur, ?_, ?_⟩, h.nA, h.nG⟩
  · refine h.bel.trans ⟨hF.os.trans hP.os, hF.tape.trans hP.tape, hF.output.trans hP.output, ?_, fun b hb => ?_⟩
    · have := hF.size
      rw [hP.size] at this
      have e : (W2.setRow G (cur.toList.take (tot S k) ++ ((S k).data.toList.map fun b => Value.int .u8 (b.toNat : Int)) ++ cur.toList.drop (tot S k + (S k).size)).toArray).heap.size = W2.heap.size := by simp [World.setRow]
      rw [e]
      omega
    · have hnA := h.nA
      have hnG := h.nG
      rw [setRow_other W2 G b _ (by omega)]
      exact hold b (by omega) (by omega) (by omega)
  · refine h.str.keep fun b cs hb => ?_
    have hbl := lt_of_heap hb
    have h1 : b ≠ A := heap_ne hb hA (by decide)
    have h2 : b ≠ G := heap_ne hb hcG (by decide)
    have h3 : b ≠ g := by
      rcases hg with e | ⟨_, e⟩
      · obtain ⟨c, hc⟩ := h.ts.row_tag e
        exact heap_ne hb hc (by decide)
      · rw [e, hP.size]; omega
    rw [setRow_other W2 G b _ h2, hold b hbl h1 h3]
    exact hb
  · have : tl (tl (cat S k) ++ (S k).data.toList) = tl (cat S (k + 1)) := tl_tl _ _
    rw [this] at hT
    exact hT.keep (setRow_other W2 G A _ hAG) (fun g' e => by cases e; exact setRow_other W2 G g _ hgG)
  · have : (S k).data.size = (S k).size := rfl
    simp [hc1]
    omega
  · have e1 : (cur.toList.take (tot S k)).length = tot S k := by rw [List.length_take, Array.length_toList, hc1]; omega
    have e2 : ((S k).data.toList.map fun b : UInt8 => Value.int .u8 (b.toNat : Int)) = encB (S k).data.toList := rfl
    rw [List.toList_toArray, e2, hc2, ← encB_append]
    have e3 : (encB (cat S k ++ (S k).data.toList)).length = tot S (k + 1) := by rw [encB_len]; exact cat_len S (k + 1)
    rw [List.take_append_of_le_length (by rw [e3]; exact Nat.le_refl _), List.take_of_length_le (by rw [e3]; exact Nat.le_refl _)]
    rfl

end Go.Proofs.Qxb6001695a
