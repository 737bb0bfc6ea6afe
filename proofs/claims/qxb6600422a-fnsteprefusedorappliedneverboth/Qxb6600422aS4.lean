import Derived.Test.Qxb6600422aS3
namespace Go.Proofs.Qxb6600422a
open Go.RowKit
set_option linter.unusedVariables false
set_option linter.unusedSimpArgs false
attribute [local go_sem ↓] Go.wp_at_zero Go.wp_at_succ

theorem size35 : (Try.prog.info? 35).map (·.size) = some 2 := by kernel_rfl

def AnyB (w : World) (e : Ending) (w' : World) : Prop := (∃ b, e = .returned (.bool b)) ∧ Below w.heap.size w w'
def AnyI (w : World) (e : Ending) (w' : World) : Prop := (∃ n : Int, e = .returned (.int .i64 n)) ∧ Below w.heap.size w w'

theorem bytes20 (set : Bool) (val inv : ByteArray) (sv op v : Int) (h1 a1 h2 a2 : Bool) (p1 p2 : Option Addr) (l1 c1 l2 c2 : Nat) (w : World) :
    Calls Try.prog 20 #[.agg #[.bool set, .string val, .int .u64 sv], .int .u8 op, .string inv, .agg #[.bool h1, .bool a1, .slice p1 l1 c1, .bool h2, .bool a2, .slice p2 l2 c2], .int .u64 v] w (AnyB w) := by
  have hB : ∀ o1 o2, Below w.heap.size w ((w.alloc o1).alloc o2) := fun o1 o2 => ((Below.refl _ _).alloc (Nat.le_refl _) _).alloc (by simp) _
  have hBH := hide hB
  clear hB
  go_enter Try.func20, Try.ntmps20
  go_wp2_with fail
  all_goals go_ret
  all_goals exact ⟨⟨_, rfl⟩, hBH.out _ _⟩
theorem big10 (h1 a1 h2 a2 : Bool) (p1 p2 : Option Addr) (l1 c1 l2 c2 : Nat) (w : World) (hl1 : l1 ≤ 131072) (hl2 : l2 ≤ 131072) :
    Calls Try.prog 10 #[.agg #[.bool h1, .bool a1, .slice p1 l1 c1, .bool h2, .bool a2, .slice p2 l2 c2]] w fun e w' => e = .returned (.bool false) ∧ Below w.heap.size w w' := by
  have t1 : ¬ ((131072 : Int) < (l1 : Int)) := by omega
  have t2 : ¬ ((131072 : Int) < (l2 : Int)) := by omega
  go_enter Try.func10, Try.ntmps10
  go_wp2_with fail
  go_ret
  exact ⟨rfl, (Below.refl _ _).alloc (Nat.le_refl _) _⟩
theorem big10t (h1 a1 h2 a2 : Bool) (p1 p2 : Option Addr) (l1 c1 l2 c2 : Nat) (w : World) (hl : ¬ (l1 ≤ 131072 ∧ l2 ≤ 131072)) :
    Calls Try.prog 10 #[.agg #[.bool h1, .bool a1, .slice p1 l1 c1, .bool h2, .bool a2, .slice p2 l2 c2]] w fun e w' => e = .returned (.bool true) ∧ Below w.heap.size w w' := by
  by_cases t1 : (131072 : Int) < (l1 : Int)
  · clear hl
    go_enter Try.func10, Try.ntmps10
    go_wp2_with fail
    go_ret
    exact ⟨rfl, (Below.refl _ _).alloc (Nat.le_refl _) _⟩
  · have t2 : (131072 : Int) < (l2 : Int) := by omega
    clear hl
    go_enter Try.func10, Try.ntmps10
    go_wp2_with fail
    go_ret
    exact ⟨rfl, (Below.refl _ _).alloc (Nat.le_refl _) _⟩
theorem cbytes11 (h1 a1 h2 a2 : Bool) (p1 p2 : Option Addr) (l1 c1 l2 c2 : Nat) (w : World) :
    Calls Try.prog 11 #[.agg #[.bool h1, .bool a1, .slice p1 l1 c1, .bool h2, .bool a2, .slice p2 l2 c2]] w (AnyI w) := by
  go_enter Try.func11, Try.ntmps11
  go_wp2_with fail
  go_ret
  exact ⟨⟨_, rfl⟩, (Below.refl _ _).alloc (Nat.le_refl _) _⟩

def MC (W : World) (m : Option Addr) (a : Bool) (p : Option Addr) (l c : Nat) : Prop := m = none ∨ ∃ b, m = some ⟨b, 0, none⟩ ∧ W.heap[b]? = some (.cells #[.bool a, .slice p l c] 54 (0, 0))
def CP (w : World) (a1 a2 : Bool) (p1 p2 : Option Addr) (l1 c1 l2 c2 : Nat) (e : Ending) (w' : World) : Prop := ∃ m1 m2, e = .returned (.agg #[.pointer m1, .pointer m2]) ∧ Below w.heap.size w w' ∧ MC w' m1 a1 p1 l1 c1 ∧ MC w' m2 a2 p2 l2 c2

theorem al3 (w : World) (o1 o2 o3 : Obj) : Below w.heap.size w (((w.alloc o1).alloc o2).alloc o3) ∧ (((w.alloc o1).alloc o2).alloc o3).heap.size = w.heap.size + 1 + 1 + 1 ∧ (((w.alloc o1).alloc o2).alloc o3).heap[w.heap.size + 1]? = some o2 := by
  refine ⟨(((Below.refl _ _).alloc (Nat.le_refl _) _).alloc (by simp) _).alloc (by first | (simp; done) | (simp; omega)) _, by simp, ?_⟩
  rw [Below.heap_alloc _ _ _ (by simp)]; exact heap_alloc2_new w _ _
theorem heap_alloc_at (W : World) (o : Obj) (n : Nat) (h : W.heap.size = n) : (W.alloc o).heap[n]? = some o := by subst h; exact heap_alloc_new _ _
set_option maxHeartbeats 2000000 in
theorem cond15_ff (a1 a2 : Bool) (p1 p2 : Option Addr) (l1 c1 l2 c2 : Nat) (w : World) :
    Calls Try.prog 15 #[.agg #[.bool false, .bool a1, .slice p1 l1 c1, .bool false, .bool a2, .slice p2 l2 c2]] w (CP w a1 a2 p1 p2 l1 c1 l2 c2) := by
  have hH := hide (fun o1 o2 o3 => al3 w o1 o2 o3)
  go_enter Try.func15, Try.ntmps15
  go_wp2_with fail
  refine bodyPost_ret (results_cell_row rfl _ _ (w.heap.size + 1) 35 _ (0, 0) _ rfl (hH.out _ _ _).2.2 Try.underlying35 rfl size35) rfl ?_
  exact ⟨none, none, rfl, (hH.out _ _ _).1, .inl rfl, .inl rfl⟩
set_option maxHeartbeats 2000000 in
theorem cond15_tf (a1 a2 : Bool) (p1 p2 : Option Addr) (l1 c1 l2 c2 : Nat) (w : World) :
    Calls Try.prog 15 #[.agg #[.bool true, .bool a1, .slice p1 l1 c1, .bool false, .bool a2, .slice p2 l2 c2]] w (CP w a1 a2 p1 p2 l1 c1 l2 c2) := by
  have hH := hide (fun o1 o2 o3 => al3 w o1 o2 o3)
  go_enter Try.func15, Try.ntmps15
  go_wp2_with fail
  refine bodyPost_ret (results_cell_row rfl _ _ (w.heap.size + 1) 35 _ (0, 0) _ rfl ((Below.heap_alloc _ _ _ (by rw [(hH.out _ _ _).2.1]; omega)).trans (hH.out _ _ _).2.2) Try.underlying35 rfl size35) rfl ?_
  refine ⟨some ⟨w.heap.size + 1 + 1 + 1, 0, none⟩, none, rfl, (hH.out _ _ _).1.alloc (by rw [(hH.out _ _ _).2.1]; omega) _, .inr ⟨_, rfl, ?_⟩, .inl rfl⟩
  exact heap_alloc_at _ _ _ (hH.out _ _ _).2.1
set_option maxHeartbeats 2000000 in
theorem cond15_ft (a1 a2 : Bool) (p1 p2 : Option Addr) (l1 c1 l2 c2 : Nat) (w : World) :
    Calls Try.prog 15 #[.agg #[.bool false, .bool a1, .slice p1 l1 c1, .bool true, .bool a2, .slice p2 l2 c2]] w (CP w a1 a2 p1 p2 l1 c1 l2 c2) := by
  have hH := hide (fun o1 o2 o3 => al3 w o1 o2 o3)
  go_enter Try.func15, Try.ntmps15
  go_wp2_with fail
  refine bodyPost_ret (results_cell_row rfl _ _ (w.heap.size + 1) 35 _ (0, 0) _ rfl ((Below.heap_alloc _ _ _ (by rw [(hH.out _ _ _).2.1]; omega)).trans (hH.out _ _ _).2.2) Try.underlying35 rfl size35) rfl ?_
  refine ⟨none, some ⟨w.heap.size + 1 + 1 + 1, 0, none⟩, rfl, (hH.out _ _ _).1.alloc (by rw [(hH.out _ _ _).2.1]; omega) _, .inl rfl, .inr ⟨_, rfl, ?_⟩⟩
  exact heap_alloc_at _ _ _ (hH.out _ _ _).2.1
set_option maxHeartbeats 2000000 in
theorem cond15_tt (a1 a2 : Bool) (p1 p2 : Option Addr) (l1 c1 l2 c2 : Nat) (w : World) :
    Calls Try.prog 15 #[.agg #[.bool true, .bool a1, .slice p1 l1 c1, .bool true, .bool a2, .slice p2 l2 c2]] w (CP w a1 a2 p1 p2 l1 c1 l2 c2) := by
  have hH := hide (fun o1 o2 o3 => al3 w o1 o2 o3)
  go_enter Try.func15, Try.ntmps15
  go_wp2_with fail
  refine bodyPost_ret (results_cell_row rfl _ _ (w.heap.size + 1) 35 _ (0, 0) _ rfl ((Below.heap_alloc _ _ _ (by rw [World.size_alloc, (hH.out _ _ _).2.1]; omega)).trans ((Below.heap_alloc _ _ _ (by rw [(hH.out _ _ _).2.1]; omega)).trans (hH.out _ _ _).2.2)) Try.underlying35 rfl size35) rfl ?_
  refine ⟨some ⟨w.heap.size + 1 + 1 + 1, 0, none⟩, some ⟨w.heap.size + 1 + 1 + 1 + 1, 0, none⟩, rfl, ((hH.out _ _ _).1.alloc (by rw [(hH.out _ _ _).2.1]; omega) _).alloc (by rw [World.size_alloc, (hH.out _ _ _).2.1]; omega) _, .inr ⟨_, rfl, ?_⟩, .inr ⟨_, rfl, ?_⟩⟩
  · refine (Below.heap_alloc _ _ _ (by rw [World.size_alloc, (hH.out _ _ _).2.1]; omega)).trans ?_
    exact heap_alloc_at _ _ _ (hH.out _ _ _).2.1
  · exact heap_alloc_at _ _ _ (by rw [World.size_alloc, (hH.out _ _ _).2.1])
/-- zzCondition. -/
theorem cond15 (h1 a1 h2 a2 : Bool) (p1 p2 : Option Addr) (l1 c1 l2 c2 : Nat) (w : World) :
    Calls Try.prog 15 #[.agg #[.bool h1, .bool a1, .slice p1 l1 c1, .bool h2, .bool a2, .slice p2 l2 c2]] w (CP w a1 a2 p1 p2 l1 c1 l2 c2) := by
  cases h1 <;> cases h2
  · exact cond15_ff a1 a2 p1 p2 l1 c1 l2 c2 w
  · exact cond15_ft a1 a2 p1 p2 l1 c1 l2 c2 w
  · exact cond15_tf a1 a2 p1 p2 l1 c1 l2 c2 w
  · exact cond15_tt a1 a2 p1 p2 l1 c1 l2 c2 w
end Go.Proofs.Qxb6600422a
