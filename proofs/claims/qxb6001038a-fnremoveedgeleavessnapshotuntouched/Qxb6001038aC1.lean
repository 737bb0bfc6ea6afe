import Derived.Test.Qxb6001038aB2
import Derived.Lib.SliceRun
import Derived.Deep.OwnRows
import Derived.OpenShut
namespace Go.Proofs.Qxb6001038a
open Go.RowKit
set_option linter.unusedVariables false

theorem infoU8 : (Try.prog.info? 5).map (fun i => (i.zero, i.size, i.bytes)) = some (some (.int .u8 0), 1, 1) := by kernel_rfl
theorem infoBo : (Try.prog.info? 4).map (fun i => (i.zero, i.size, i.bytes)) = some (some (.bool false), 1, 1) := by kernel_rfl

theorem cloneU8_nil (w : World) : Calls Try.prog 9 #[.slice none 0 0] w fun e w' => e = .returned (.slice none 0 0) ∧ w' = w := by
  have q := fun (w : World) (a : Option Addr) (n c : Nat) => Lib.run_eql_slice_nil (P := Try.prog) w 22 5 a n c 0 0 Try.underlying22
  go_enter Try.func9, Try.ntmps9
  go_wp2
  go_ret
  exact ⟨rfl, rfl⟩

set_option maxHeartbeats 1000000 in
theorem cloneU8_row (x : Addr) (len cap : Nat) (V : Nat → Int) (w : World) (hl : len ≤ 1000000) (hc : ∀ i, i < len → w.cell? (x.add i) = some (.int .u8 (V i))) :
    Calls Try.prog 9 #[.slice (some x) len cap] w fun e w' => e = .returned (.slice (some ⟨w.heap.size, 0, none⟩) len len) ∧ Below w.heap.size w w' ∧ w'.rowIs w.heap.size 5 len (fun i => .int .u8 (V i)) := by
  have q := fun (w : World) (a : Option Addr) (n c : Nat) => Lib.run_eql_slice_nil (P := Try.prog) w 22 5 a n c 0 0 Try.underlying22
  have hmk := run_make_row' (P := Try.prog) 22 5 (.int .u8 0) 1 Try.underlying22 infoU8 rfl .i64 .i64 len (by omega) (by omega)
  have hxb : 0 < len → x.block < w.heap.size := fun h => by
    have := World.block_lt_of_cell? _ _ (hc 0 h)
    simpa [Addr.add] using this
  have hcH := hide hc; have hxH := hide hxb
  clear hc hxb
  go_enter Try.func9, Try.ntmps9
  go_wp2_with fail
  go_loopw [4] (fun j wr => ∃ k : Nat, k ≤ len ∧ j = .int .i64 k ∧ Hid (Below w.heap.size w wr ∧ wr.rowIs w.heap.size 5 len (fun i => if i < k then .int .u8 (V i) else .int .u8 0))) (fun j _ => len - (intOf j).toNat)
  case atStart => exact ⟨0, by omega, rfl, (Below.refl _ _).alloc (Nat.le_refl _) _, (World.rowIs_made w (.int .u8 0) len 5).congr (fun i hi => by simp)⟩
  case round =>
    obtain ⟨k, hk, rfl, hI⟩ := hrel
    by_cases hlt : k < len
    · obtain ⟨hB, hrow⟩ := hI.out
      clear hI
      obtain ⟨xb, xo, xs⟩ := x
      have hx := hcH.out k hlt
      have hxb := hxH.out (by omega)
      have hcx : wr.cell? ((⟨xb, xo, xs⟩ : Addr).add k) = some (.int .u8 (V k)) := by
        have hbk : ((⟨xb, xo, xs⟩ : Addr).add k).block = xb := by unfold Addr.add; split <;> rfl
        rw [Below.cell hB (by rw [hbk]; exact hxb)]; exact hx
      have hcy := hrow.cell hlt
      have hfy := hrow.frozen k
      have hbH := hide hB; have hrH := hide hrow
      clear hB hrow hx
      simp only [Nat.lt_irrefl, if_false] at hcy
      go_wp2
      go_roundw
      case rel =>
        refine ⟨k + 1, by omega, by go_num, hbH.out.setCell (Nat.le_refl _) _, (hrH.out.set k _).congr (fun i hi => ?_)⟩
        by_cases e : i = k
        · subst e; simp
        · by_cases e2 : i < k
          · rw [if_neg e, if_pos e2, if_pos (by omega)]
          · rw [if_neg e, if_neg e2, if_neg (by omega)]
      case measure => simp [intOf]; omega
    · obtain rfl : k = len := by omega
      go_wp2
      go_ret
      obtain ⟨hB, hrow⟩ := hI.out
      exact ⟨rfl, hB, hrow.congr (fun i hi => by simp [hi])⟩

theorem cloneBo_nil (w : World) : Calls Try.prog 24 #[.slice none 0 0] w fun e w' => e = .returned (.slice none 0 0) ∧ w' = w := by
  have q := fun (w : World) (a : Option Addr) (n c : Nat) => Lib.run_eql_slice_nil (P := Try.prog) w 41 4 a n c 0 0 Try.underlying41
  go_enter Try.func24, Try.ntmps24
  go_wp2
  go_ret
  exact ⟨rfl, rfl⟩

set_option maxHeartbeats 1000000 in
theorem cloneBo_row (x : Addr) (len cap : Nat) (V : Nat → Bool) (w : World) (hl : len ≤ 1000000) (hc : ∀ i, i < len → w.cell? (x.add i) = some (.bool (V i))) :
    Calls Try.prog 24 #[.slice (some x) len cap] w fun e w' => e = .returned (.slice (some ⟨w.heap.size, 0, none⟩) len len) ∧ Below w.heap.size w w' ∧ w'.rowIs w.heap.size 4 len (fun i => .bool (V i)) := by
  have q := fun (w : World) (a : Option Addr) (n c : Nat) => Lib.run_eql_slice_nil (P := Try.prog) w 41 4 a n c 0 0 Try.underlying41
  have hmk := run_make_row' (P := Try.prog) 41 4 (.bool false) 1 Try.underlying41 infoBo rfl .i64 .i64 len (by omega) (by omega)
  have hxb : 0 < len → x.block < w.heap.size := fun h => by
    have := World.block_lt_of_cell? _ _ (hc 0 h)
    simpa [Addr.add] using this
  have hcH := hide hc; have hxH := hide hxb
  clear hc hxb
  go_enter Try.func24, Try.ntmps24
  go_wp2_with fail
  go_loopw [4] (fun j wr => ∃ k : Nat, k ≤ len ∧ j = .int .i64 k ∧ Hid (Below w.heap.size w wr ∧ wr.rowIs w.heap.size 4 len (fun i => if i < k then .bool (V i) else .bool false))) (fun j _ => len - (intOf j).toNat)
  case atStart => exact ⟨0, by omega, rfl, (Below.refl _ _).alloc (Nat.le_refl _) _, (World.rowIs_made w (.bool false) len 4).congr (fun i hi => by simp)⟩
  case round =>
    obtain ⟨k, hk, rfl, hI⟩ := hrel
    by_cases hlt : k < len
    · obtain ⟨hB, hrow⟩ := hI.out
      clear hI
      obtain ⟨xb, xo, xs⟩ := x
      have hx := hcH.out k hlt
      have hxb := hxH.out (by omega)
      have hcx : wr.cell? ((⟨xb, xo, xs⟩ : Addr).add k) = some (.bool (V k)) := by
        have hbk : ((⟨xb, xo, xs⟩ : Addr).add k).block = xb := by unfold Addr.add; split <;> rfl
        rw [Below.cell hB (by rw [hbk]; exact hxb)]; exact hx
      have hcy := hrow.cell hlt
      have hfy := hrow.frozen k
      have hbH := hide hB; have hrH := hide hrow
      clear hB hrow hx
      simp only [Nat.lt_irrefl, if_false] at hcy
      go_wp2
      go_roundw
      case rel =>
        refine ⟨k + 1, by omega, by go_num, hbH.out.setCell (Nat.le_refl _) _, (hrH.out.set k _).congr (fun i hi => ?_)⟩
        by_cases e : i = k
        · subst e; simp
        · by_cases e2 : i < k
          · rw [if_neg e, if_pos e2, if_pos (by omega)]
          · rw [if_neg e, if_neg e2, if_neg (by omega)]
      case measure => simp [intOf]; omega
    · obtain rfl : k = len := by omega
      go_wp2
      go_ret
      obtain ⟨hB, hrow⟩ := hI.out
      exact ⟨rfl, hB, hrow.congr (fun i hi => by simp [hi])⟩


/-- What came in as a slice of bytes: as the shell hands it. -/
def IsRow (k : IntKind) (w : World) (a : Option Addr) (len cap : Nat) (zs : List Int) : Prop :=
  (a = none ∧ len = 0 ∧ cap = 0 ∧ zs = []) ∨
  ∃ x, a = some x ∧ len ≤ cap ∧ cap ≤ maxLen ∧ zs.length = cap ∧ (∀ i, i < zs.length → w.cell? (x.add i) = some (.int k (zs.getD i 0))) ∧ ∀ n ∈ zs, (Lit.int k n).wf = true

theorem cloneU8_any (a : Option Addr) (len cap : Nat) (zs : List Int) (w : World) (h : IsRow .u8 w a len cap zs) (hl : len ≤ 1000000) :
    Calls Try.prog 9 #[.slice a len cap] w fun e w' => ∃ p n c, e = .returned (.slice p n c) ∧ Below w.heap.size w w' ∧ Siz w' p n ∧ n ≤ len ∧ w.heap.size ≤ w'.heap.size := by
  rcases h with ⟨rfl, rfl, rfl, rfl⟩ | ⟨x, rfl, h1, h2, h3, h4, h5⟩
  · refine (cloneU8_nil w).mono ?_
    rintro e w' ⟨rfl, rfl⟩
    exact ⟨none, 0, 0, rfl, Below.refl _ _, fun h => by omega, by omega, Nat.le_refl _⟩
  · refine (cloneU8_row x len cap (fun i => zs.getD i 0) w hl (fun i hi => h4 i (by omega))).mono ?_
    rintro e w' ⟨rfl, hB, hrow⟩
    refine ⟨_, len, len, rfl, hB, fun h0 => ?_, Nat.le_refl _, hB.size⟩
    obtain ⟨c, hc1, hc2, hc3⟩ := hrow
    refine ⟨w.heap.size, c, rfl, hc1, fun j hj => ⟨zs.getD j 0, hc3 j hj, ?_⟩⟩
    have hm : zs.getD j 0 ∈ zs := by
      simp only [List.getD]
      rw [List.getElem?_eq_getElem (by omega)]
      exact List.getElem_mem _
    exact bounds_u8 (h5 _ hm)

end Go.Proofs.Qxb6001038a
