import Derived.Test.Qxb6001695aW1
import Derived.Test.Qxb6001695aL2
namespace Go.Proofs.Qxb6001695a
open Go.RowKit
set_option linter.unusedVariables false
set_option linter.unusedSimpArgs false

theorem last_last (N : Nat) (x y : List UInt8) : (x.drop (x.length - N) ++ y).drop ((x.drop (x.length - N) ++ y).length - N) = (x ++ y).drop ((x ++ y).length - N) := by
  by_cases h : x.length ≤ N
  · rw [show x.length - N = 0 by omega, List.drop_zero]
  · have h1 : x.length - (x.length - N) = N := by omega
    rw [List.length_append, List.length_append, List.length_drop, h1, List.drop_append, List.drop_append, List.drop_drop, List.length_drop, h1]
    congr 1
    · congr 1; omega
    · congr 1; omega
theorem tl_tl (x y : List UInt8) : tl (tl x ++ y) = tl (x ++ y) := last_last 4096 x y

/-- A tail, with its row or yet without. -/
def TS (w : World) (T : Nat) (row : Option Nat) (bs : List UInt8) (n : Nat) : Prop :=
  (row = none ∧ bs = [] ∧ w.heap[T]? = some (.cells #[.slice none 0 0, .int .i64 n] 28 (0, 0))) ∨ ∃ g, row = some g ∧ TailP w T g bs n ∧ g ≠ T

theorem write_any (T pb pcap n : Nat) (row : Option Nat) (bs ps : List UInt8) (m : Nat) (w : World) (hm : ps.length = m) (h : TS w T row bs n) (hpT : pb ≠ T) (hpl : pb < w.heap.size) (hpr : row ≠ some pb)
    (hsrc : ∀ j v, (encB ps)[j]? = some v → w.cell? ⟨pb, j, none⟩ = some v) (hps : m ≤ 1048576) (htot : n ≤ 1048576) (hcap : m ≤ pcap) :
    Calls Try.prog 9 #[.pointer (some ⟨T, 0, none⟩), .slice (some ⟨pb, 0, none⟩) m pcap] w fun e w' => e = .returned (.tuple #[.int .i64 m, .nilIface]) ∧ ∃ g, TS w' T (some g) (tl (bs ++ ps)) (n + m) ∧ (row = some g ∨ (row = none ∧ g = w.heap.size)) ∧ Fr w w' T g := by
  subst hm
  rcases h with ⟨rfl, rfl, hT⟩ | ⟨g, rfl, hP, hgT⟩
  · have hTl := lt_of_heap hT
    by_cases h4 : 4096 ≤ ps.length
    · refine (write_nA T pb pcap n ps w hT hpT hpl hsrc hps htot hcap h4).mono ?_
      rintro e w' ⟨rfl, h1, h2⟩
      exact ⟨rfl, _, .inr ⟨_, rfl, h1, by omega⟩, .inr ⟨rfl, rfl⟩, h2⟩
    · refine (write_nB1 T pb pcap n ps w hT hpT hpl hsrc hps htot hcap (by omega) (by omega)).mono ?_
      rintro e w' ⟨rfl, h1, h2⟩
      exact ⟨rfl, _, .inr ⟨_, rfl, h1, by omega⟩, .inr ⟨rfl, rfl⟩, h2⟩
  · have hpg : pb ≠ g := fun e => hpr (by rw [e])
    by_cases h4 : 4096 ≤ ps.length
    · refine (write_sA T g pb pcap n bs ps w hP hgT hpT hpg hsrc hps htot hcap h4).mono ?_
      rintro e w' ⟨rfl, h1, h2⟩
      exact ⟨rfl, _, .inr ⟨_, rfl, h1, hgT⟩, .inl rfl, h2⟩
    · by_cases h5 : bs.length + ps.length ≤ 4096
      · refine (write_sB1 T g pb pcap n bs ps w hP hgT hpT hpg hsrc hps htot hcap (by omega) h5).mono ?_
        rintro e w' ⟨rfl, h1, h2⟩
        exact ⟨rfl, _, .inr ⟨_, rfl, h1, hgT⟩, .inl rfl, h2⟩
      · refine (write_sB2 T g pb pcap n bs ps w hP hgT hpT hpg hsrc hps htot hcap (by omega) (by omega)).mono ?_
        rintro e w' ⟨rfl, h1, h2⟩
        exact ⟨rfl, _, .inr ⟨_, rfl, h1, hgT⟩, .inl rfl, h2⟩

theorem info9 : (Try.prog.info? 9).map (fun i => (i.zero, i.size, i.bytes)) = some (some (.string ⟨#[]⟩), 1, 16) := by kernel_rfl

theorem clone_n (w : World) : Calls Try.prog 7 #[.slice none 0 0] w fun e w' => e = .returned (.slice none 0 0) ∧ w' = w := by
  have q := fun (w : World) (a : Option Addr) (n c : Nat) => Lib.run_eql_slice_nil (P := Try.prog) w 22 9 a n c 0 0 Try.underlying22
  go_enter Try.func7, Try.ntmps7
  go_wp2_with fail
  go_ret
  exact ⟨rfl, rfl⟩

set_option maxHeartbeats 1000000 in
theorem clone_r (x : Addr) (len cap : Nat) (V : Nat → ByteArray) (w : World) (hl : len ≤ 1000000) (hc : ∀ i, i < len → w.cell? (x.add i) = some (.string (V i))) :
    Calls Try.prog 7 #[.slice (some x) len cap] w fun e w' => e = .returned (.slice (some ⟨w.heap.size, 0, none⟩) len len) ∧ Below w.heap.size w w' ∧ w'.rowIs w.heap.size 9 len (fun i => .string (V i)) := by
  have q := fun (w : World) (a : Option Addr) (n c : Nat) => Lib.run_eql_slice_nil (P := Try.prog) w 22 9 a n c 0 0 Try.underlying22
  have hmk := run_make_row' (P := Try.prog) 22 9 (.string ⟨#[]⟩) 16 Try.underlying22 info9 rfl .i64 .i64 len (by omega) (by omega)
  have hxb : 0 < len → x.block < w.heap.size := fun h => by
    have := World.block_lt_of_cell? _ _ (hc 0 h)
    simpa [Addr.add] using this
  have hcH := hide hc; have hxH := hide hxb
  clear hc hxb
  go_enter Try.func7, Try.ntmps7
  go_wp2_with fail
  go_loopw [4] (fun j wr => ∃ k : Nat, k ≤ len ∧ j = .int .i64 k ∧ Hid (Below w.heap.size w wr ∧ wr.rowIs w.heap.size 9 len (fun i => if i < k then .string (V i) else .string ⟨#[]⟩))) (fun j _ => len - (intOf j).toNat)
  case atStart => exact ⟨0, by omega, rfl, (Below.refl _ _).alloc (Nat.le_refl _) _, (World.rowIs_made w (.string ⟨#[]⟩) len 9).congr (fun i hi => by simp)⟩
  case round =>
    obtain ⟨k, hk, rfl, hI⟩ := hrel
    by_cases hlt : k < len
    · obtain ⟨hB, hrow⟩ := hI.out
      clear hI
      obtain ⟨xb, xo, xs⟩ := x
      have hx := hcH.out k hlt
      have hxb := hxH.out (by omega)
      have hcx : wr.cell? ((⟨xb, xo, xs⟩ : Addr).add k) = some (.string (V k)) := by
        have hbk : ((⟨xb, xo, xs⟩ : Addr).add k).block = xb := by unfold Addr.add; split <;> rfl
        rw [Below.cell hB (by rw [hbk]; exact hxb)]; exact hx
      have hcy := hrow.cell hlt
      have hfy := hrow.frozen k
      have hbH := hide hB; have hrH := hide hrow
      clear hB hrow hx
      simp only [Nat.lt_irrefl, if_false] at hcy
      go_wp2
      go_roundw
      case rel =>
        refine ⟨k + 1, by omega, by go_num, hbH.out.setCell (Nat.le_refl _) _, (hrH.out.set k _).congr (fun i hi => ?_)⟩
        by_cases e : i = k
        · subst e; simp
        · by_cases e2 : i < k
          · rw [if_neg e, if_pos e2, if_pos (by omega)]
          · rw [if_neg e, if_neg e2, if_neg (by omega)]
      case measure => simp [intOf]; omega
    · obtain rfl : k = len := by omega
      go_wp2
      go_ret
      obtain ⟨hB, hrow⟩ := hI.out
      exact ⟨rfl, hB, hrow.congr (fun i hi => by simp [hi])⟩

/-- cloneStrings. -/
theorem clone_any (a : Option Addr) (len cap : Nat) (S : Nat → ByteArray) (w : World) (h : IsStrs w a len cap S) (hl : len ≤ 1000000) :
    Calls Try.prog 7 #[.slice a len cap] w fun e w' => ∃ p c, e = .returned (.slice p len c) ∧ Below w.heap.size w w' ∧ ((p = none ∧ len = 0 ∧ c = 0) ∨ ∃ C cs, p = some ⟨C, 0, none⟩ ∧ w.heap.size ≤ C ∧ w'.heap[C]? = some (.cells cs 9 (0, 0)) ∧ ∀ i, i < len → cs[i]? = some (.string (S i))) := by
  rcases h with ⟨rfl, rfl, rfl⟩ | ⟨x, rfl, h1, h2, h3⟩
  · refine (clone_n w).mono ?_
    rintro e w' ⟨rfl, rfl⟩
    exact ⟨none, 0, rfl, Below.refl _ _, .inl ⟨rfl, rfl, rfl⟩⟩
  · refine (clone_r x len cap S w hl h3).mono ?_
    rintro e w' ⟨rfl, hB, hrow⟩
    obtain ⟨c, hc1, hc2, hc3⟩ := hrow
    exact ⟨_, len, rfl, hB, .inr ⟨w.heap.size, c, rfl, Nat.le_refl _, hc1, fun j hj => hc3 j hj⟩⟩

end Go.Proofs.Qxb6001695a
