import Derived.Test.Qxb6600422aL2
import Derived.Deep.RegionLaw
import Derived.BigRegion
namespace Go.Proofs.Qxb6600422a
open Go.RowKit
set_option linter.unusedVariables false
set_option linter.unusedSimpArgs false
attribute [local go_sem ↓] Go.wp_at_zero Go.wp_at_succ

theorem same_true (set : Bool) (val : ByteArray) (sv v : Int) (w : World) (h : sv = 0 ∨ v = 0 ∨ sv = v) :
    Calls Try.prog 37 #[.agg #[.bool set, .string val, .int .u64 sv], .int .u64 v] w fun e w' => e = .returned (.bool true) ∧ Below w.heap.size w w' := by
  by_cases h1 : sv = 0
  · subst h1
    go_enter Try.func37, Try.ntmps37
    go_wp2_with fail
    go_ret
    exact ⟨rfl, (Below.refl _ _).alloc (Nat.le_refl _) _⟩
  · have e1 : (sv == 0) = false := by rw [beq_eq_false_iff_ne]; exact h1
    by_cases h2 : v = 0
    · subst h2
      clear h
      go_enter Try.func37, Try.ntmps37
      go_wp2_with fail
      go_ret
      exact ⟨rfl, (Below.refl _ _).alloc (Nat.le_refl _) _⟩
    · obtain rfl : sv = v := by rcases h with h | h | h; exact absurd h h1; exact absurd h h2; exact h
      clear h h1
      go_enter Try.func37, Try.ntmps37
      go_wp2_with fail
      go_ret
      exact ⟨rfl, (Below.refl _ _).alloc (Nat.le_refl _) _⟩

theorem size52 : (Try.prog.info? 52).map (·.size) = some 3 := by kernel_rfl

set_option maxHeartbeats 1000000 in
theorem named_any (set : Bool) (val : ByteArray) (sv v : Int) (w : World) :
    Calls Try.prog 38 #[.agg #[.bool set, .string val, .int .u64 sv], .int .u64 v] w fun e w' => (∃ a b c, e = .returned (.agg #[.bool a, .string b, .int .u64 c])) ∧ Below w.heap.size w w' := by
  by_cases h1 : sv = 0
  · subst h1
    go_enter Try.func38, Try.ntmps38
    go_wp2_with fail
    refine bodyPost_ret (results_cell_row rfl _ _ (w.heap.size + 1) 52 _ (0, 0) _ rfl (heap_alloc2_new w _ _) Try.underlying52 rfl size52) rfl ?_
    exact ⟨⟨_, _, _, rfl⟩, ((Below.refl _ _).alloc (Nat.le_refl _) _).alloc (by simp) _⟩
  · have e1 : (sv == 0) = false := by rw [beq_eq_false_iff_ne]; exact h1
    go_enter Try.func38, Try.ntmps38
    go_wp2_with fail
    refine bodyPost_ret (results_cell_row rfl _ _ (w.heap.size + 1) 52 _ (0, 0) _ rfl (heap_alloc2_new w _ _) Try.underlying52 rfl size52) rfl ?_
    exact ⟨⟨_, _, _, rfl⟩, ((Below.refl _ _).alloc (Nat.le_refl _) _).alloc (by simp) _⟩

/-- Holds at q says hb, in W and in every world that grew out of it. -/
def HO (W : World) (p1 p2 : Option Addr) (q : Int) (hb : Bool) : Prop :=
  ∀ W', Below W.heap.size W W' → Calls Try.prog 30 #[.agg #[.pointer p1, .pointer p2], .int .u64 q] W' fun e w' => e = .returned (.bool hb) ∧ Below W'.heap.size W' w'
theorem HO.mono {W W1 : World} {p1 p2 : Option Addr} {q : Int} {hb : Bool} (h : HO W p1 p2 q hb) (hB : Below W.heap.size W W1) : HO W1 p1 p2 q hb := fun W' hB' => h W' (hB.trans (hB'.mono hB.size))

set_option maxHeartbeats 1000000 in
theorem may_no (val : ByteArray) (sv : Int) (p1 p2 : Option Addr) (hb : Bool) (w : World) (hH : HO w p1 p2 0 hb) :
    Calls Try.prog 27 #[.agg #[.bool false, .string val, .int .u64 sv], .agg #[.pointer p1, .pointer p2]] w fun e w' => e = .returned (.bool hb) ∧ Below w.heap.size w w' := by
  have h1 := hide (hH ((w.alloc (.cells #[.bool false, .string val, .int .u64 sv] 52)).alloc (.cells #[.pointer p1, .pointer p2] 35)) (((Below.refl _ _).alloc (Nat.le_refl _) _).alloc (by simp) _))
  have h2 : Below w.heap.size w ((w.alloc (.cells #[.bool false, .string val, .int .u64 sv] 52)).alloc (.cells #[.pointer p1, .pointer p2] 35)) := ((Below.refl _ _).alloc (Nat.le_refl _) _).alloc (by simp) _
  have h2H := hide h2
  clear hH h2
  go_enter Try.func27, Try.ntmps27
  go_wp2_with (first | (go_at_call 30; refine h1.out.mono ?_; rintro e w9 ⟨rfl, hB9⟩))
  go_ret
  exact ⟨rfl, h2H.out.trans (hB9.mono h2H.out.size)⟩
set_option maxHeartbeats 1000000 in
theorem may_set (val : ByteArray) (sv : Int) (p1 p2 : Option Addr) (hb : Bool) (w : World) (hs : sv ≠ 0) (hH : HO w p1 p2 sv hb) :
    Calls Try.prog 27 #[.agg #[.bool true, .string val, .int .u64 sv], .agg #[.pointer p1, .pointer p2]] w fun e w' => e = .returned (.bool hb) ∧ Below w.heap.size w w' := by
  have e1 : (sv != 0) = true := by rw [bne_iff_ne]; exact hs
  have h1 := hide (hH ((w.alloc (.cells #[.bool true, .string val, .int .u64 sv] 52)).alloc (.cells #[.pointer p1, .pointer p2] 35)) (((Below.refl _ _).alloc (Nat.le_refl _) _).alloc (by simp) _))
  have h2 : Below w.heap.size w ((w.alloc (.cells #[.bool true, .string val, .int .u64 sv] 52)).alloc (.cells #[.pointer p1, .pointer p2] 35)) := ((Below.refl _ _).alloc (Nat.le_refl _) _).alloc (by simp) _
  have h2H := hide h2
  clear hH h2 hs
  go_enter Try.func27, Try.ntmps27
  go_wp2_with (first | (go_at_call 30; refine h1.out.mono ?_; rintro e w9 ⟨rfl, hB9⟩))
  go_ret
  exact ⟨rfl, h2H.out.trans (hB9.mono h2H.out.size)⟩

/-- A key's version, as a write's answer names it. -/
def qv (set : Bool) (sv : Int) : Int := if set then sv else 0
theorem may_any (set : Bool) (val : ByteArray) (sv : Int) (p1 p2 : Option Addr) (hb : Bool) (w : World) (hs : set = true → sv ≠ 0) (hH : HO w p1 p2 (qv set sv) hb) :
    Calls Try.prog 27 #[.agg #[.bool set, .string val, .int .u64 sv], .agg #[.pointer p1, .pointer p2]] w fun e w' => e = .returned (.bool hb) ∧ Below w.heap.size w w' := by
  cases set
  · exact may_no val sv p1 p2 hb w hH
  · exact may_set val sv p1 p2 hb w (hs rfl) hH

theorem results_tmp_cell {fn : Func} {p u : Tmp} (h : fn.results = #[.tmp u, .cell p 52]) (tmps : Array Value) (w : World) (g : Nat) (cs : Array Value)
    (hp : tmps.getD p undef = .pointer (some ⟨g, 0, none⟩)) (hg : w.heap[g]? = some (.cells cs 52 (0, 0))) (hi : cs.size = 3) :
    (results fn tmps).run Try.prog w = .ok (.tuple #[tmps.getD u undef, .agg cs]) w := by
  have hp' : tmps[p]?.getD undef = .pointer (some ⟨g, 0, none⟩) := by simpa using hp
  have hl := run_loadVar_row (P := Try.prog) w g 52 52 cs (0, 0) _ hg Try.underlying52 rfl (by rw [hi]; exact size52)
  simp [results, h, hp', asAddr, hl]

theorem cells3 {W : World} {b : Nat} {t : TypeId} {x y z : Value} (h : W.heap[b]? = some (.cells #[x, y, z] t (0, 0))) : W.cell? ⟨b, 0, none⟩ = some x ∧ W.cell? ⟨b, 1, none⟩ = some y ∧ W.cell? ⟨b, 2, none⟩ = some z ∧ ∀ i, W.frozen? ⟨b, i, none⟩ = false :=
  ⟨by rw [cell_of_row W b 0 _ t _ h]; rfl, by rw [cell_of_row W b 1 _ t _ h]; rfl, by rw [cell_of_row W b 2 _ t _ h]; rfl, fun i => frozen_of_row W b i _ t h⟩
theorem cells5 {W : World} {b : Nat} {t : TypeId} {x y z u v : Value} (h : W.heap[b]? = some (.cells #[x, y, z, u, v] t (0, 0))) : W.cell? ⟨b, 0, none⟩ = some x ∧ W.cell? ⟨b, 1, none⟩ = some y ∧ W.cell? ⟨b, 2, none⟩ = some z ∧ W.cell? ⟨b, 3, none⟩ = some u ∧ W.cell? ⟨b, 4, none⟩ = some v :=
  ⟨by rw [cell_of_row W b 0 _ t _ h]; rfl, by rw [cell_of_row W b 1 _ t _ h]; rfl, by rw [cell_of_row W b 2 _ t _ h]; rfl, by rw [cell_of_row W b 3 _ t _ h]; rfl, by rw [cell_of_row W b 4 _ t _ h]; rfl⟩
theorem set3 {W : World} {b : Nat} {x y z x' y' z' : Value} (h : W.heap[b]? = some (.cells #[x, y, z] 52 (0, 0))) : (((W.setCell ⟨b, 0, none⟩ x').setCell ⟨b, 1, none⟩ y').setCell ⟨b, 2, none⟩ z').heap[b]? = some (.cells #[x', y', z'] 52 (0, 0)) := by
  have h1 := heap_setCell_same W b 0 _ 52 x' h
  have h2 := heap_setCell_same _ b 1 _ 52 y' h1
  exact heap_setCell_same _ b 2 _ 52 z' h2

/-- The world behind step's entry. -/
def W4of (w : World) (st inp out : Array Value) : World :=
  (((w.alloc (.cells st 52)).alloc (.cells inp 66)).alloc (.cells out 68)).alloc (.cells #[.bool false, .string ⟨#[]⟩, .int .u64 0] 52)
theorem W4_facts (w : World) (st inp out : Array Value) : Below w.heap.size w (W4of w st inp out) ∧ (W4of w st inp out).heap.size = w.heap.size + 4 ∧ ∀ W', Below (w.heap.size + 4) (W4of w st inp out) W' →
    W'.heap[w.heap.size]? = some (.cells st 52 (0, 0)) ∧ W'.heap[w.heap.size + 1]? = some (.cells inp 66 (0, 0)) ∧ W'.heap[w.heap.size + 1 + 1]? = some (.cells out 68 (0, 0)) ∧ W'.heap[w.heap.size + 1 + 1 + 1]? = some (.cells #[.bool false, .string ⟨#[]⟩, .int .u64 0] 52 (0, 0)) := by
  have hs : (W4of w st inp out).heap.size = w.heap.size + 4 := by simp [W4of]
  refine ⟨((((Below.refl _ _).alloc (Nat.le_refl _) _).alloc (by simp) _).alloc (by first | (simp; done) | (simp; omega)) _).alloc (by first | (simp; done) | (simp; omega)) _, hs, fun W' hB => ⟨?_, ?_, ?_, ?_⟩⟩
  · rw [hB.block _ (by omega)]; unfold W4of
    rw [Below.heap_alloc _ _ _ (by first | (simp; done) | (simp; omega)), Below.heap_alloc _ _ _ (by first | (simp; done) | (simp; omega)), Below.heap_alloc _ _ _ (by simp)]; exact heap_alloc_new w _
  · rw [hB.block _ (by omega)]; unfold W4of
    rw [Below.heap_alloc _ _ _ (by first | (simp; done) | (simp; omega)), Below.heap_alloc _ _ _ (by simp)]; exact heap_alloc2_new w _ _
  · rw [hB.block _ (by omega)]; unfold W4of
    rw [Below.heap_alloc _ _ _ (by simp)]
    have := heap_alloc2_new (w.alloc (.cells st 52)) (.cells inp 66) (.cells out 68)
    simpa using this
  · rw [hB.block _ (by omega)]; unfold W4of
    have := heap_alloc2_new ((w.alloc (.cells st 52)).alloc (.cells inp 66)) (.cells out 68) (.cells #[.bool false, .string ⟨#[]⟩, .int .u64 0] 52)
    simpa using this

/-- What a step says. -/
def Said (ok : Bool) (W : World) (e : Ending) (w' : World) : Prop := (∃ a b c, e = .returned (.tuple #[.bool ok, .agg #[.bool a, .string b, .int .u64 c]])) ∧ Below W.heap.size W w'

set_option maxHeartbeats 4000000 in
theorem step_refused (set : Bool) (val key inv ov : ByteArray) (sv op : Int) (found : Bool) (p1 p2 : Option Addr) (hb : Bool) (w : World) (hop : op ≠ 71) (hs : set = true → sv ≠ 0) (hH : HO w p1 p2 (qv set sv) hb) :
    Calls Try.prog 34 #[.agg #[.bool set, .string val, .int .u64 sv], .agg #[.int .u8 op, .string key, .string inv, .pointer p1, .pointer p2], .agg #[.bool true, .bool found, .bool true, .string ov, .int .u64 (qv set sv)]] w (Said (!hb) w) := by
  obtain ⟨q, hq⟩ : ∃ q, q = qv set sv := ⟨_, rfl⟩
  have e1 : ((q != 0) == set) = true := by
    rw [hq]
    cases set
    · rfl
    · have : (sv != 0) = true := by rw [bne_iff_ne]; exact hs rfl
      simp [qv, this]
  have hsv : sv = 0 ∨ q = 0 ∨ sv = q := by
    rw [hq]
    cases set
    · exact .inr (.inl rfl)
    · exact .inr (.inr rfl)
  have e0 : (op == 71) = false := by rw [beq_eq_false_iff_ne]; exact hop
  rw [← hq] at hH ⊢
  have hHH := hide hH
  have hsm := hide (fun W => same_true set val sv q W hsv)
  have hnm := hide (fun W => named_any set val sv q W)
  clear hH hq hs hsv hop
  go_enter Try.func34, Try.ntmps34
  obtain ⟨f1, f2, f3⟩ := W4_facts w #[.bool set, .string val, .int .u64 sv] #[.int .u8 op, .string key, .string inv, .pointer p1, .pointer p2] #[.bool true, .bool found, .bool true, .string ov, .int .u64 q]
  obtain ⟨W4, hW4⟩ : ∃ W4, W4 = W4of w #[.bool set, .string val, .int .u64 sv] #[.int .u8 op, .string key, .string inv, .pointer p1, .pointer p2] #[.bool true, .bool found, .bool true, .string ov, .int .u64 q] := ⟨_, rfl⟩
  rw [← hW4] at f1 f2 f3
  go_upto_region 5 with fail
  have hW4' := hide hW4
  unfold W4of at hW4
  rw [← hW4]
  clear hW4
  have f1H := hide f1; have f3H := hide f3
  have hcel : Hid (∀ W', Below (w.heap.size + 4) W4 W' → _) := fun W' hB => (⟨cells3 (f3 W' hB).1, cells5 (f3 W' hB).2.1, cells5 (f3 W' hB).2.2.1, cells3 (f3 W' hB).2.2.2, (f3 W' hB).2.2.2⟩ : _ ∧ _ ∧ _ ∧ _ ∧ _)
  obtain ⟨⟨a0, a1, a2, _⟩, ⟨i0, i1, i2, i3, i4⟩, ⟨o0, o1, o2, o3, o4⟩, ⟨r0, r1, r2, rf⟩, rh⟩ := hcel.out W4 (Below.refl _ _)
  clear f1 f3
  go_upto_region 6 with (first
    | (go_at_call 37; refine (hsm.out _).mono ?_; rintro e W5 ⟨rfl, hB5⟩; obtain ⟨⟨a0', a1', a2', _⟩, ⟨i0', i1', i2', i3', i4'⟩, ⟨o0', o1', o2', o3', o4'⟩, _⟩ := hcel.out W5 (by rw [← f2]; exact hB5))
    | (go_at_call 30; refine (hHH.out W5 (f1H.out.trans (hB5.mono f1H.out.size))).mono ?_; rintro e W6 ⟨rfl, hB6⟩))
  have hB46 : Below (w.heap.size + 4) W4 W6 := by rw [← f2]; exact hB5.trans (hB6.mono hB5.size)
  obtain ⟨⟨b0, b1, b2, _⟩, _, ⟨q0, q1, q2, q3, q4⟩, _, _⟩ := hcel.out W6 hB46
  go_wp2_with (first
    | (go_at_call 38; refine (hnm.out _).mono ?_; rintro e W7 ⟨⟨x, y, z, rfl⟩, hB7⟩; obtain ⟨_, _, _, ⟨g0, g1, g2, gf⟩, gh⟩ := hcel.out W7 (hB46.trans (hB7.mono (by have := hB46.size; omega)))))
  refine bodyPost_ret (results_tmp_cell rfl _ _ (w.heap.size + 1 + 1 + 1) _ rfl (set3 gh) rfl) rfl ?_
  refine ⟨⟨_, _, _, rfl⟩, ?_⟩
  have hb : Below w.heap.size w W7 := f1H.out.trans ((hB46.mono (by omega)).trans (hB7.mono (by have := hB46.size; omega)))
  exact ((hb.setCell (by simp; omega) _).setCell (by simp; omega) _).setCell (by simp; omega) _
set_option maxHeartbeats 4000000 in
theorem step_wno (set : Bool) (val key inv ov : ByteArray) (sv op v : Int) (ans found : Bool) (p1 p2 : Option Addr) (w : World) (hop : op ≠ 71) (hs : set = true → sv ≠ 0) (hH : HO w p1 p2 (qv set sv) false) :
    Calls Try.prog 34 #[.agg #[.bool set, .string val, .int .u64 sv], .agg #[.int .u8 op, .string key, .string inv, .pointer p1, .pointer p2], .agg #[.bool ans, .bool found, .bool false, .string ov, .int .u64 v]] w (Said (!ans) w) := by
  have e0 : (op == 71) = false := by rw [beq_eq_false_iff_ne]; exact hop
  skip
  have hHH := hide hH
  have hmy := hide (fun W (hB : Below w.heap.size w W) => may_any set val sv p1 p2 false W hs (hH.mono hB))
  clear hH hs hop
  go_enter Try.func34, Try.ntmps34
  obtain ⟨f1, f2, f3⟩ := W4_facts w #[.bool set, .string val, .int .u64 sv] #[.int .u8 op, .string key, .string inv, .pointer p1, .pointer p2] #[.bool ans, .bool found, .bool false, .string ov, .int .u64 v]
  obtain ⟨W4, hW4⟩ : ∃ W4, W4 = W4of w #[.bool set, .string val, .int .u64 sv] #[.int .u8 op, .string key, .string inv, .pointer p1, .pointer p2] #[.bool ans, .bool found, .bool false, .string ov, .int .u64 v] := ⟨_, rfl⟩
  rw [← hW4] at f1 f2 f3
  go_upto_region 7 with fail
  unfold W4of at hW4
  rw [← hW4]
  clear hW4
  have f1H := hide f1; have f3H := hide f3
  have hcel : Hid (∀ W', Below (w.heap.size + 4) W4 W' → _) := fun W' hB => (⟨cells3 (f3 W' hB).1, cells5 (f3 W' hB).2.1, cells5 (f3 W' hB).2.2.1, cells3 (f3 W' hB).2.2.2, (f3 W' hB).2.2.2⟩ : _ ∧ _ ∧ _ ∧ _ ∧ _)
  obtain ⟨⟨a0, a1, a2, _⟩, ⟨i0, i1, i2, i3, i4⟩, ⟨o0, o1, o2, o3, o4⟩, ⟨r0, r1, r2, rf⟩, rh⟩ := hcel.out W4 (Below.refl _ _)
  clear f1 f3
  go_upto_region 8 with (first
    | (go_at_call 27; refine (hmy.out _ f1H.out).mono ?_; rintro e W5 ⟨rfl, hB5⟩; obtain ⟨⟨a0', a1', a2', _⟩, ⟨i0', i1', i2', i3', i4'⟩, ⟨o0', o1', o2', o3', o4'⟩, ⟨g0, g1, g2, gf⟩, gh⟩ := hcel.out W5 (by rw [← f2]; exact hB5)))
  have hb : Below w.heap.size w W5 := f1H.out.trans (hB5.mono f1H.out.size)
  have hbH := hide hb
  clear a0 a1 a2 i0 i1 i2 i3 i4 o0 o1 o2 o3 o4 r0 r1 r2 rf rh hb
  go_region_law (fail)
  all_goals go_wp2_with fail
  all_goals refine bodyPost_ret (results_tmp_cell rfl _ _ (w.heap.size + 1 + 1 + 1) _ rfl (set3 (W := W5.drew) gh) rfl) rfl ?_
  all_goals refine ⟨⟨_, _, _, rfl⟩, ?_⟩
  all_goals exact ((hbH.out.drew.setCell (by simp; omega) _).setCell (by simp; omega) _).setCell (by simp; omega) _

set_option maxHeartbeats 4000000 in
theorem step_wdel (set : Bool) (val key inv ov : ByteArray) (sv op v : Int) (ans found : Bool) (p1 p2 : Option Addr) (w : World) (hop : op ≠ 71) (hd : op = 68) (hs : set = true → sv ≠ 0) (hH : HO w p1 p2 (qv set sv) true) :
    Calls Try.prog 34 #[.agg #[.bool set, .string val, .int .u64 sv], .agg #[.int .u8 op, .string key, .string inv, .pointer p1, .pointer p2], .agg #[.bool ans, .bool found, .bool false, .string ov, .int .u64 v]] w (Said (true) w) := by
  have e0 : (op == 71) = false := by rw [beq_eq_false_iff_ne]; exact hop
  have e2 : (op == 68) = true := by rw [hd]; rfl
  clear hd
  have hHH := hide hH
  have hmy := hide (fun W (hB : Below w.heap.size w W) => may_any set val sv p1 p2 true W hs (hH.mono hB))
  clear hH hs hop
  go_enter Try.func34, Try.ntmps34
  obtain ⟨f1, f2, f3⟩ := W4_facts w #[.bool set, .string val, .int .u64 sv] #[.int .u8 op, .string key, .string inv, .pointer p1, .pointer p2] #[.bool ans, .bool found, .bool false, .string ov, .int .u64 v]
  obtain ⟨W4, hW4⟩ : ∃ W4, W4 = W4of w #[.bool set, .string val, .int .u64 sv] #[.int .u8 op, .string key, .string inv, .pointer p1, .pointer p2] #[.bool ans, .bool found, .bool false, .string ov, .int .u64 v] := ⟨_, rfl⟩
  rw [← hW4] at f1 f2 f3
  go_upto_region 7 with fail
  unfold W4of at hW4
  rw [← hW4]
  clear hW4
  have f1H := hide f1; have f3H := hide f3
  have hcel : Hid (∀ W', Below (w.heap.size + 4) W4 W' → _) := fun W' hB => (⟨cells3 (f3 W' hB).1, cells5 (f3 W' hB).2.1, cells5 (f3 W' hB).2.2.1, cells3 (f3 W' hB).2.2.2, (f3 W' hB).2.2.2⟩ : _ ∧ _ ∧ _ ∧ _ ∧ _)
  obtain ⟨⟨a0, a1, a2, _⟩, ⟨i0, i1, i2, i3, i4⟩, ⟨o0, o1, o2, o3, o4⟩, ⟨r0, r1, r2, rf⟩, rh⟩ := hcel.out W4 (Below.refl _ _)
  clear f1 f3
  go_upto_region 9 with (first
    | (go_at_call 27; refine (hmy.out _ f1H.out).mono ?_; rintro e W5 ⟨rfl, hB5⟩; obtain ⟨⟨a0', a1', a2', _⟩, ⟨i0', i1', i2', i3', i4'⟩, ⟨o0', o1', o2', o3', o4'⟩, ⟨g0, g1, g2, gf⟩, gh⟩ := hcel.out W5 (by rw [← f2]; exact hB5)))
  have hb : Below w.heap.size w W5 := f1H.out.trans (hB5.mono f1H.out.size)
  have hbH := hide hb
  clear a0 a1 a2 i0 i1 i2 i3 i4 o0 o1 o2 o3 o4 r0 r1 r2 rf rh hb
  go_wp2_with fail
  refine bodyPost_ret (results_tmp_cell rfl _ _ (w.heap.size + 1 + 1 + 1) _ rfl (set3 gh) rfl) rfl ?_
  refine ⟨⟨_, _, _, rfl⟩, ?_⟩
  exact ((hbH.out.setCell (by simp; omega) _).setCell (by simp; omega) _).setCell (by simp; omega) _

set_option maxHeartbeats 4000000 in
theorem step_wput (set : Bool) (val key inv ov : ByteArray) (sv op v : Int) (ans found : Bool) (p1 p2 : Option Addr) (w : World) (hop : op ≠ 71) (hd : op ≠ 68) (hs : set = true → sv ≠ 0) (hH : HO w p1 p2 (qv set sv) true) :
    Calls Try.prog 34 #[.agg #[.bool set, .string val, .int .u64 sv], .agg #[.int .u8 op, .string key, .string inv, .pointer p1, .pointer p2], .agg #[.bool ans, .bool found, .bool false, .string ov, .int .u64 v]] w (Said (true) w) := by
  have e0 : (op == 71) = false := by rw [beq_eq_false_iff_ne]; exact hop
  have e2 : (op == 68) = false := by rw [beq_eq_false_iff_ne]; exact hd
  clear hd
  have hHH := hide hH
  have hmy := hide (fun W (hB : Below w.heap.size w W) => may_any set val sv p1 p2 true W hs (hH.mono hB))
  clear hH hs hop
  go_enter Try.func34, Try.ntmps34
  obtain ⟨f1, f2, f3⟩ := W4_facts w #[.bool set, .string val, .int .u64 sv] #[.int .u8 op, .string key, .string inv, .pointer p1, .pointer p2] #[.bool ans, .bool found, .bool false, .string ov, .int .u64 v]
  obtain ⟨W4, hW4⟩ : ∃ W4, W4 = W4of w #[.bool set, .string val, .int .u64 sv] #[.int .u8 op, .string key, .string inv, .pointer p1, .pointer p2] #[.bool ans, .bool found, .bool false, .string ov, .int .u64 v] := ⟨_, rfl⟩
  rw [← hW4] at f1 f2 f3
  go_upto_region 7 with fail
  unfold W4of at hW4
  rw [← hW4]
  clear hW4
  have f1H := hide f1; have f3H := hide f3
  have hcel : Hid (∀ W', Below (w.heap.size + 4) W4 W' → _) := fun W' hB => (⟨cells3 (f3 W' hB).1, cells5 (f3 W' hB).2.1, cells5 (f3 W' hB).2.2.1, cells3 (f3 W' hB).2.2.2, (f3 W' hB).2.2.2⟩ : _ ∧ _ ∧ _ ∧ _ ∧ _)
  obtain ⟨⟨a0, a1, a2, _⟩, ⟨i0, i1, i2, i3, i4⟩, ⟨o0, o1, o2, o3, o4⟩, ⟨r0, r1, r2, rf⟩, rh⟩ := hcel.out W4 (Below.refl _ _)
  clear f1 f3
  go_upto_region 9 with (first
    | (go_at_call 27; refine (hmy.out _ f1H.out).mono ?_; rintro e W5 ⟨rfl, hB5⟩; obtain ⟨⟨a0', a1', a2', _⟩, ⟨i0', i1', i2', i3', i4'⟩, ⟨o0', o1', o2', o3', o4'⟩, ⟨g0, g1, g2, gf⟩, gh⟩ := hcel.out W5 (by rw [← f2]; exact hB5)))
  have hb : Below w.heap.size w W5 := f1H.out.trans (hB5.mono f1H.out.size)
  have hbH := hide hb
  clear a0 a1 a2 i0 i1 i2 i3 i4 o0 o1 o2 o3 o4 r0 r1 r2 rf rh hb
  go_upto_region 11 with fail
  go_region_law (fail)
  all_goals go_wp2_with fail
  all_goals refine bodyPost_ret (results_tmp_cell rfl _ _ (w.heap.size + 1 + 1 + 1) _ rfl (set3 (W := W5.drew) gh) rfl) rfl ?_
  all_goals refine ⟨⟨_, _, _, rfl⟩, ?_⟩
  all_goals exact ((hbH.out.drew.setCell (by simp; omega) _).setCell (by simp; omega) _).setCell (by simp; omega) _

theorem step_write (set : Bool) (val key inv ov : ByteArray) (sv op v : Int) (ans found : Bool) (p1 p2 : Option Addr) (hb : Bool) (w : World) (hop : op ≠ 71) (hs : set = true → sv ≠ 0) (hH : HO w p1 p2 (qv set sv) hb) :
    Calls Try.prog 34 #[.agg #[.bool set, .string val, .int .u64 sv], .agg #[.int .u8 op, .string key, .string inv, .pointer p1, .pointer p2], .agg #[.bool ans, .bool found, .bool false, .string ov, .int .u64 v]] w (Said (hb || !ans) w) := by
  cases hb
  · exact step_wno set val key inv ov sv op v ans found p1 p2 w hop hs hH
  · by_cases hd : op = 68
    · exact step_wdel set val key inv ov sv op v ans found p1 p2 w hop hd hs hH
    · exact step_wput set val key inv ov sv op v ans found p1 p2 w hop hd hs hH

end Go.Proofs.Qxb6600422a
