import Derived.Test.Qxb6600422aS4
import Derived.Deep.CutRange
namespace Go.Proofs.Qxb6600422a
open Go.RowKit
set_option linter.unusedVariables false
set_option linter.unusedSimpArgs false
attribute [local go_sem ↓] Go.wp_at_zero Go.wp_at_succ

/-- The law's two boxes lie as they were laid. -/
def Bx (n : Nat) (set : Bool) (val : ByteArray) (sv : Int) (h1 a1 : Bool) (p1 : Option Addr) (l1 c1 : Nat) (h2 a2 : Bool) (p2 : Option Addr) (l2 c2 : Nat) (W : World) : Prop :=
  W.heap[n]? = some (.cells #[.bool set, .string val, .int .u64 sv] 24 (0, 0)) ∧ W.heap[n + 1]? = some (.cells #[.bool h1, .bool a1, .slice p1 l1 c1, .bool h2, .bool a2, .slice p2 l2 c2] 27 (0, 0))
theorem Bx.keep {n : Nat} {set : Bool} {val : ByteArray} {sv : Int} {h1 a1 : Bool} {p1 : Option Addr} {l1 c1 : Nat} {h2 a2 : Bool} {p2 : Option Addr} {l2 c2 : Nat} {W W' : World} (h : Bx n set val sv h1 a1 p1 l1 c1 h2 a2 p2 l2 c2 W) (hB : Below W.heap.size W W') : Bx n set val sv h1 a1 p1 l1 c1 h2 a2 p2 l2 c2 W' :=
  ⟨(hB.block _ (lt_of_heap h.1)).trans h.1, (hB.block _ (lt_of_heap h.2)).trans h.2⟩
theorem Bx.cells {n : Nat} {set : Bool} {val : ByteArray} {sv : Int} {h1 a1 : Bool} {p1 : Option Addr} {l1 c1 : Nat} {h2 a2 : Bool} {p2 : Option Addr} {l2 c2 : Nat} {W : World} (h : Bx n set val sv h1 a1 p1 l1 c1 h2 a2 p2 l2 c2 W) :
    (W.cell? ⟨n, 0, none⟩ = some (.bool set) ∧ W.cell? ⟨n, 1, none⟩ = some (.string val) ∧ W.cell? ⟨n, 2, none⟩ = some (.int .u64 sv)) ∧
    (W.cell? ⟨n + 1, 0, none⟩ = some (.bool h1) ∧ W.cell? ⟨n + 1, 1, none⟩ = some (.bool a1) ∧ W.cell? ⟨n + 1, 2, none⟩ = some (.slice p1 l1 c1) ∧ W.cell? ⟨n + 1, 3, none⟩ = some (.bool h2) ∧ W.cell? ⟨n + 1, 4, none⟩ = some (.bool a2) ∧ W.cell? ⟨n + 1, 5, none⟩ = some (.slice p2 l2 c2) ∧ ∀ i, W.frozen? ⟨n + 1, i, none⟩ = false) :=
  ⟨⟨(cells3 h.1).1, (cells3 h.1).2.1, (cells3 h.1).2.2.1⟩, cells6 h.2⟩

theorem mok_of (W : World) (m : Option Addr) (a : Bool) (p : Option Addr) (l c : Nat) (V : Nat → Int) (q : Int) (h : MC W m a p l c) (hu : IsU W.heap.size W p l c V) (hl : l ≤ 131072) : MOk W.heap.size W q m := by
  rcases h with rfl | ⟨b, rfl, hb⟩
  · exact .inl rfl
  · obtain ⟨mb, hmb⟩ := match_ex W.heap.size W b a p l c V q hb (lt_of_heap hb) (by omega) hu
    exact .inr ⟨b, mb, rfl, hmb⟩
/-- What the three steps say. -/
def Three (W : World) (set : Bool) (val inv : ByteArray) (sv op v rv : Int) (m1 m2 : Option Addr) (hb : Bool) : Prop :=
  ∀ W', Below W.heap.size W W' →
    Calls Try.prog 19 #[.agg #[.bool set, .string val, .int .u64 sv], .int .u8 op, .string ⟨#[107]⟩, .string inv, .agg #[.pointer m1, .pointer m2], .agg #[.bool true, .bool false, .bool true, .string ⟨#[]⟩, .int .u64 rv]] W' (Said (!hb) W') ∧
    Calls Try.prog 19 #[.agg #[.bool set, .string val, .int .u64 sv], .int .u8 op, .string ⟨#[107]⟩, .string inv, .agg #[.pointer m1, .pointer m2], .agg #[.bool true, .bool false, .bool false, .string ⟨#[]⟩, .int .u64 v]] W' (Said hb W') ∧
    Calls Try.prog 19 #[.agg #[.bool set, .string val, .int .u64 sv], .int .u8 op, .string ⟨#[107]⟩, .string inv, .agg #[.pointer m1, .pointer m2], .agg #[.bool false, .bool false, .bool false, .string ⟨#[]⟩, .int .u64 v]] W' (Said true W')
theorem three_ex (W : World) (set : Bool) (val inv : ByteArray) (sv op v rv : Int) (m1 m2 : Option Addr) (a1 a2 : Bool) (p1 p2 : Option Addr) (l1 c1 l2 c2 : Nat) (V1 V2 : Nat → Int)
    (hm1 : MC W m1 a1 p1 l1 c1) (hm2 : MC W m2 a2 p2 l2 c2) (hu1 : IsU W.heap.size W p1 l1 c1 V1) (hu2 : IsU W.heap.size W p2 l2 c2 V2) (hl1 : l1 ≤ 131072) (hl2 : l2 ≤ 131072) (hop : op ≠ 71) (hs : set = true → sv ≠ 0) (hrv : rv = qv set sv) :
    ∃ hb, Three W set val inv sv op v rv m1 m2 hb := by
  obtain ⟨hb, hhb⟩ := holds_ex W.heap.size W (qv set sv) m1 m2 (mok_of W m1 a1 p1 l1 c1 V1 _ hm1 hu1 hl1) (mok_of W m2 a2 p2 l2 c2 V2 _ hm2 hu2 hl2)
  have hO : ∀ W', Below W.heap.size W W' → HO W' m1 m2 (qv set sv) hb := fun W' hB W'' hB' => hhb W'' (hB.trans (hB'.mono hB.size)) (Nat.le_trans hB.size hB'.size)
  refine ⟨hb, fun W' hB => ⟨?_, ?_, ?_⟩⟩
  · rw [hrv]
    exact zzstep19 _ _ _ _ _ _ _ _ _ _ _ _ _ _ _ (fun X hX => step_refused set val _ inv _ sv op _ m1 m2 hb X hop hs (hO X (hB.trans (hX.mono hB.size))))
  · refine zzstep19 _ _ _ _ _ _ _ _ _ _ _ _ _ _ _ (fun X hX => ?_)
    have := step_write set val ⟨#[107]⟩ inv ⟨#[]⟩ sv op v true false m1 m2 hb X hop hs (hO X (hB.trans (hX.mono hB.size)))
    simpa using this
  · refine zzstep19 _ _ _ _ _ _ _ _ _ _ _ _ _ _ _ (fun X hX => ?_)
    have := step_write set val ⟨#[107]⟩ inv ⟨#[]⟩ sv op v false false m1 m2 hb X hop hs (hO X (hB.trans (hX.mono hB.size)))
    simpa using this

set_option maxHeartbeats 1000000 in
theorem after13 (w wc W4 : World) (set : Bool) (val : ByteArray) (sv : Int) (h1 a1 h2 a2 : Bool) (p1 p2 q1 q2 : Option Addr) (l1 c1 d1 l2 c2 d2 : Nat) (V1 V2 : Nat → Int)
    (hB3 : Below w.heap.size w wc) (hX3 : Bx w.heap.size set val sv h1 a1 p1 l1 c1 h2 a2 p2 l2 c2 wc) (hB4 : Below wc.heap.size wc W4) (hq1 : IsU W4.heap.size W4 q1 l1 d1 V1) (hq2 : IsU W4.heap.size W4 q2 l2 d2 V2)
    (hn1 : ∀ x, q1 = some x → wc.heap.size ≤ x.block) (hn2 : ∀ x, q2 = some x → wc.heap.size ≤ x.block) (W5 : World)
    (hW5 : W5 = ((((((W4.setCell ⟨w.heap.size + 1, 0, none⟩ (.bool h1)).setCell ⟨w.heap.size + 1, 1, none⟩ (.bool a1)).setCell ⟨w.heap.size + 1, 2, none⟩ (.slice q1 l1 d1)).setCell ⟨w.heap.size + 1, 3, none⟩ (.bool h2)).setCell ⟨w.heap.size + 1, 4, none⟩ (.bool a2)).setCell ⟨w.heap.size + 1, 5, none⟩ (.slice q2 l2 d2))) :
    Below w.heap.size w W5 ∧ Bx w.heap.size set val sv h1 a1 q1 l1 d1 h2 a2 q2 l2 d2 W5 ∧ IsU W5.heap.size W5 q1 l1 d1 V1 ∧ IsU W5.heap.size W5 q2 l2 d2 V2 := by
  have hX4 := hX3.keep hB4
  have hlt : w.heap.size + 1 < wc.heap.size := lt_of_heap hX3.2
  have hb : Below w.heap.size w W4 := hB3.trans (hB4.mono hB3.size)
  have hne : ∀ b, b ≠ w.heap.size + 1 → W5.heap[b]? = W4.heap[b]? := fun b hb => by
    rw [hW5, Below.heap_setCell _ _ _ b (by exact hb), Below.heap_setCell _ _ _ b (by exact hb), Below.heap_setCell _ _ _ b (by exact hb), Below.heap_setCell _ _ _ b (by exact hb), Below.heap_setCell _ _ _ b (by exact hb), Below.heap_setCell _ _ _ b (by exact hb)]
  have hz : W5.heap.size = W4.heap.size := by rw [hW5]; simp
  refine ⟨?_, ⟨(hne _ (by omega)).trans hX4.1, ?_⟩, hq1.move (by omega) (fun x e => hne _ (by have := hn1 x e; omega)), hq2.move (by omega) (fun x e => hne _ (by have := hn2 x e; omega))⟩
  · rw [hW5]
    exact (((((hb.setCell (by simp) _).setCell (by simp) _).setCell (by simp) _).setCell (by simp) _).setCell (by simp) _).setCell (by simp) _
  · rw [hW5]; exact set6 hX4.2

def Kp (n g : Nat) (set : Bool) (val : ByteArray) (sv : Int) (m1 m2 : Option Addr) (W : World) : Prop :=
  W.heap[n]? = some (.cells #[.bool set, .string val, .int .u64 sv] 24 (0, 0)) ∧ W.heap[g]? = some (.cells #[.pointer m1, .pointer m2] 35 (0, 0))
theorem Kp.keep {n g : Nat} {set : Bool} {val : ByteArray} {sv : Int} {m1 m2 : Option Addr} {W W' : World} (h : Kp n g set val sv m1 m2 W) (hB : Below W.heap.size W W') : Kp n g set val sv m1 m2 W' :=
  ⟨(hB.block _ (lt_of_heap h.1)).trans h.1, (hB.block _ (lt_of_heap h.2)).trans h.2⟩
theorem Kp.cells {n g : Nat} {set : Bool} {val : ByteArray} {sv : Int} {m1 m2 : Option Addr} {W : World} (h : Kp n g set val sv m1 m2 W) :
    W.cell? ⟨n, 0, none⟩ = some (.bool set) ∧ W.cell? ⟨n, 1, none⟩ = some (.string val) ∧ W.cell? ⟨n, 2, none⟩ = some (.int .u64 sv) ∧ W.cell? ⟨g, 0, none⟩ = some (.pointer m1) ∧ W.cell? ⟨g, 1, none⟩ = some (.pointer m2) :=
  ⟨(cells3 h.1).1, (cells3 h.1).2.1, (cells3 h.1).2.2.1, by rw [cell_of_row W g 0 _ 35 _ h.2]; rfl, by rw [cell_of_row W g 1 _ 35 _ h.2]; rfl⟩
theorem Below.al {W W' : World} (h : Below W.heap.size W W') (o : Obj) : Below W.heap.size W (W'.alloc o) := h.alloc h.size o
theorem Below.tr {W W' W'' : World} (h : Below W.heap.size W W') (h' : Below W'.heap.size W' W'') : Below W.heap.size W W'' := h.trans (h'.mono h.size)

def Fin (w : World) (e : Ending) (w' : World) : Prop := e = .returned (.bool true) ∧ Below w.heap.size w w'

set_option maxHeartbeats 4000000 in
theorem main6 (set : Bool) (val inv : ByteArray) (sv op v : Int) (h1 a1 h2 a2 : Bool) (p1 p2 : Option Addr) (l1 c1 l2 c2 : Nat) (V1 V2 : Nat → Int) (w : World) (hu1 : IsU w.heap.size w p1 l1 c1 V1) (hu2 : IsU w.heap.size w p2 l2 c2 V2) :
    Calls Try.prog 6 #[.agg #[.bool set, .string val, .int .u64 sv], .int .u8 op, .string inv, .agg #[.bool h1, .bool a1, .slice p1 l1 c1, .bool h2, .bool a2, .slice p2 l2 c2], .int .u64 v] w (Fin w) := by
  have hu1H := hide hu1; have hu2H := hide hu2
  clear hu1 hu2
  go_enter Try.func6, Try.ntmps6
  go_upto_region 1 with fail
  obtain ⟨E0, hE0⟩ : ∃ E0, E0 = (w.alloc (.cells #[.bool set, .string val, .int .u64 sv] 24)).alloc (.cells #[.bool h1, .bool a1, .slice p1 l1 c1, .bool h2, .bool a2, .slice p2 l2 c2] 27) := ⟨_, rfl⟩
  have hB0 : Below w.heap.size w E0 := by rw [hE0]; exact ((Below.refl _ _).alloc (Nat.le_refl _) _).alloc (by simp) _
  have hX0 : Bx w.heap.size set val sv h1 a1 p1 l1 c1 h2 a2 p2 l2 c2 E0 := by rw [hE0]; exact ⟨heap_alloc2_old w _ _, heap_alloc2_new w _ _⟩
  rw [← hE0]
  clear hE0
  obtain ⟨⟨s0, s1, s2⟩, x0, x1, x2, x3, x4, x5, xf⟩ := hX0.cells
  have hB0H := hide hB0; have hX0H := hide hX0
  have h20 := hide (bytes20 set val inv sv op v h1 a1 h2 a2 p1 p2 l1 c1 l2 c2 E0)
  clear hB0 hX0
  go_upto_region 3 with (first | (go_at_call 20; refine h20.out.mono ?_; rintro e W1 ⟨⟨b, rfl⟩, hB1⟩))
  · go_wp2_with fail
    go_ret
    exact ⟨rfl, hB0H.out.trans (hB1.mono hB0H.out.size)⟩
  · obtain ⟨⟨s0', s1', s2'⟩, x0', x1', x2', x3', x4', x5', xf'⟩ := (hX0H.out.keep hB1).cells
    have hX1H := hide (hX0H.out.keep hB1)
    have hB1H := hide (hB0H.out.trans (hB1.mono hB0H.out.size))
    clear hB1 hB0H hX0H h20 s0 s1 s2 x0 x1 x2 x3 x4 x5 xf
    clear E0
    by_cases hc : l1 ≤ 131072 ∧ l2 ≤ 131072
    · have h10 := hide (big10 h1 a1 h2 a2 p1 p2 l1 c1 l2 c2 W1 hc.1 hc.2)
      obtain ⟨hl1, hl2⟩ := hc
      have hl1H := hide hl1; have hl2H := hide hl2
      clear hl1 hl2
      go_upto_region 5 with (first | (go_at_call 10; refine h10.out.mono ?_; rintro e W2 ⟨rfl, hB2⟩))
      · obtain ⟨⟨s0, s1, s2⟩, x0, x1, x2, x3, x4, x5, xf⟩ := (hX1H.out.keep hB2).cells
        have hX2H := hide (hX1H.out.keep hB2)
        have hB2H := hide (hB1H.out.trans (hB2.mono hB1H.out.size))
        clear hB2 hB1H hX1H h10 s0' s1' s2' x0' x1' x2' x3' x4' x5' xf'
        clear W1
        have h11 := hide (fun W => cbytes11 h1 a1 h2 a2 p1 p2 l1 c1 l2 c2 W)
        have hD : Hid (∀ W, Below W2.drew.heap.size W2.drew W → W.cell? ⟨w.heap.size, 1, none⟩ = some (.string val)) := fun W hB => by
          have : W.heap[w.heap.size]? = _ := (hB.block _ (lt_of_heap (w := W2.drew) hX2H.out.1)).trans hX2H.out.1
          exact (cells3 this).2.1
        have hDB : Hid (∀ W, Below W2.drew.heap.size W2.drew W → Below W2.heap.size W2 W) := fun W hB => (Below.refl _ _).drew.trans hB
        go_cut [48] from 39 to 47 (fun c wx => (∃ bb, c = .bool bb) ∧ Hid (Below W2.heap.size W2 wx))
        case first =>
          go_region_with (first | (go_at_call 11; refine (h11.out _).mono ?_; rintro e W3 ⟨⟨n, rfl⟩, hB3⟩; have hc3 := hD.out W3 hB3))
          all_goals go_wp2_with fail
          all_goals (go_meet; exact ⟨⟨_, rfl⟩, hDB.out _ hB3⟩)
        case rest =>
          obtain ⟨⟨bb, rfl⟩, hB3⟩ := hcut
          obtain ⟨⟨s0', s1', s2'⟩, x0', x1', x2', x3', x4', x5', xf'⟩ := (hX2H.out.keep hB3.out).cells
          have hX3H := hide (hX2H.out.keep hB3.out)
          have hB3H := hide (hB2H.out.trans (hB3.out.mono hB2H.out.size))
          clear hB3 hB2H hX2H h11 hD hDB s0 s1 s2 x0 x1 x2 x3 x4 x5 xf
          clear W2
          by_cases hop : op = 71
          · subst hop
            go_wp2_with fail
            all_goals go_ret
            all_goals exact ⟨rfl, hB3H.out⟩
          by_cases hs : set = true ∧ sv = 0
          · obtain ⟨rfl, rfl⟩ := hs
            have e0 : (op == 71) = false := by rw [beq_eq_false_iff_ne]; exact hop
            clear hop
            go_wp2_with fail
            all_goals go_ret
            all_goals exact ⟨rfl, hB3H.out⟩
          have e0 : (op == 71) = false := by rw [beq_eq_false_iff_ne]; exact hop
          have hs' : set = true → sv ≠ 0 := fun h1 h2 => hs ⟨h1, h2⟩
          have hopH := hide hop; have hsH := hide hs'
          clear hop hs hs'
          have e1 : set = true → (sv == 0) = false := fun h => by rw [beq_eq_false_iff_ne]; exact hsH.out h
          cases set
          · clear e1
            go_upto_region 11 with fail
            · go_ret
              exact ⟨rfl, hB3H.out⟩
            · have h13 := hide (cond13 w.heap.size h1 a1 h2 a2 p1 p2 l1 c1 l2 c2 V1 V2 wc (hu1H.out.keep hB3H.out) (hu2H.out.keep hB3H.out) hB3H.out.size (by have := hl1H.out; omega) (by have := hl2H.out; omega))
              go_upto_region 12 with (first | (go_at_call 13; refine h13.out.mono ?_; rintro e W4 ⟨q1, d1, q2, d2, rfl, hB4, hq1, hq2, hn1, hn2⟩; obtain ⟨⟨t0, t1, t2⟩, y0, y1, y2, y3, y4, y5, yf⟩ := (hX3H.out.keep hB4).cells; have hB4H := hide hB4; have hq1H := hide hq1; have hq2H := hide hq2; have hn1H := hide hn1; have hn2H := hide hn2; clear hB4 hq1 hq2 hn1 hn2))
              obtain ⟨W5, hW5⟩ : ∃ W5, W5 = ((((((W4.setCell ⟨w.heap.size + 1, 0, none⟩ (.bool h1)).setCell ⟨w.heap.size + 1, 1, none⟩ (.bool a1)).setCell ⟨w.heap.size + 1, 2, none⟩ (.slice q1 l1 d1)).setCell ⟨w.heap.size + 1, 3, none⟩ (.bool h2)).setCell ⟨w.heap.size + 1, 4, none⟩ (.bool a2)).setCell ⟨w.heap.size + 1, 5, none⟩ (.slice q2 l2 d2)) := ⟨_, rfl⟩
              rw [← hW5]
              obtain ⟨f1, f2, f3, f4⟩ := after13 w wc W4 false val sv h1 a1 h2 a2 p1 p2 q1 q2 l1 c1 d1 l2 c2 d2 V1 V2 hB3H.out hX3H.out hB4H.out hq1H.out hq2H.out hn1H.out hn2H.out W5 hW5
              obtain ⟨⟨s0, s1, s2⟩, x0, x1, x2, x3, x4, x5, xf⟩ := f2.cells
              have f1H := hide f1; have f2H := hide f2; have f3H := hide f3; have f4H := hide f4
              have h15 := hide (cond15 h1 a1 h2 a2 q1 q2 l1 d1 l2 d2 W5)
              clear f1 f2 f3 f4 hW5 hB4H hq1H hq2H hn1H hn2H h13 hX3H hB3H hu1H hu2H t0 t1 t2 y0 y1 y2 y3 y4 y5 yf s0' s1' s2' x0' x1' x2' x3' x4' x5' xf'
              clear W4
              go_upto_region 15 with fail
              go_upto_region 16 with (first | (go_at_call 15; refine h15.out.mono ?_; rintro e W6 ⟨m1, m2, rfl, hB6, hm1, hm2⟩; have hB6H := hide hB6; have hm1H := hide hm1; have hm2H := hide hm2; clear hB6 hm1 hm2))
              obtain ⟨hb, h3⟩ := three_ex W6 false val inv sv op v 0 m1 m2 a1 a2 q1 q2 l1 d1 l2 d2 V1 V2 hm1H.out hm2H.out ((f3H.out.keep hB6H.out).move hB6H.out.size (fun _ _ => rfl)) ((f4H.out.keep hB6H.out).move hB6H.out.size (fun _ _ => rfl)) hl1H.out hl2H.out hopH.out (by intro h; first | exact hsH.out trivial | (cases h; done)) rfl
              obtain ⟨W7, hW7⟩ : ∃ W7, W7 = W6.alloc (.cells #[.pointer m1, .pointer m2] 35) := ⟨_, rfl⟩
              rw [← hW7]
              have hB67 : Below W6.heap.size W6 W7 := by rw [hW7]; exact Below.al (Below.refl _ _) _
              have hK7 : Kp w.heap.size W6.heap.size false val sv m1 m2 W7 := ⟨by rw [hW7, Below.heap_alloc _ _ _ (lt_of_heap (hB6H.out.block _ (lt_of_heap f2H.out.1) ▸ f2H.out.1))]; exact (hB6H.out.block _ (lt_of_heap f2H.out.1)).trans f2H.out.1, by rw [hW7]; exact heap_alloc_new _ _⟩
              have hBw7 : Below w.heap.size w W7 := Below.tr (Below.tr f1H.out hB6H.out) hB67
              have h37 : Hid (∀ W, Below W7.heap.size W7 W → _) := fun W hB => h3 W (Below.tr hB67 hB)
              have hK7H := hide hK7; have hBw7H := hide hBw7
              obtain ⟨t0, t1, t2, r0, r1⟩ := hK7.cells
              obtain ⟨g, hg⟩ : ∃ g, g = W6.heap.size := ⟨_, rfl⟩
              rw [← hg] at hK7H r0 r1 ⊢
              clear hg h3 hK7 hBw7 hB67 hW7 hm1H hm2H hB6H f1H f2H f3H f4H h15 s0 s1 s2 x0 x1 x2 x3 x4 x5 xf
              clear W6 W5
              go_upto_region 17 with (first | (go_at_call 19; refine (h37.out _ (Below.refl _ _)).1.mono ?_; rintro e W8 ⟨⟨x8, y8, z8, rfl⟩, hB8⟩; obtain ⟨u0, u1, u2, v0, v1⟩ := (hK7H.out.keep hB8).cells; have hB8H := hide hB8; clear hB8))
              have hE8 := hide (Below.al hB8H.out (.cells #[.bool x8, .string y8, .int .u64 z8] 24))
              obtain ⟨E8, hE8e⟩ : ∃ E8, E8 = W8.alloc (.cells #[.bool x8, .string y8, .int .u64 z8] 24) := ⟨_, rfl⟩
              rw [← hE8e] at hE8 ⊢
              clear hE8e u0 u1 u2 v0 v1 t0 t1 t2 r0 r1 hB8H
              obtain ⟨t0, t1, t2, r0, r1⟩ := (hK7H.out.keep hE8.out).cells
              go_upto_region 18 with (first | (go_at_call 19; refine (h37.out _ hE8.out).2.1.mono ?_; rintro e W9 ⟨⟨x9, y9, z9, rfl⟩, hB9⟩; obtain ⟨u0, u1, u2, v0, v1⟩ := (hK7H.out.keep (Below.tr hE8.out hB9)).cells; have hB9H := hide (Below.tr hE8.out hB9); clear hB9))
              have hE9 := hide (Below.al hB9H.out (.cells #[.bool x9, .string y9, .int .u64 z9] 24))
              obtain ⟨E9, hE9e⟩ : ∃ E9, E9 = W9.alloc (.cells #[.bool x9, .string y9, .int .u64 z9] 24) := ⟨_, rfl⟩
              rw [← hE9e] at hE9 ⊢
              clear hE9e u0 u1 u2 v0 v1 t0 t1 t2 r0 r1 hB9H hE8
              obtain ⟨t0, t1, t2, r0, r1⟩ := (hK7H.out.keep hE9.out).cells
              go_upto_region 19 with (first | (go_at_call 19; refine (h37.out _ hE9.out).2.2.mono ?_; rintro e W10 ⟨⟨x10, y10, z10, rfl⟩, hB10⟩; obtain ⟨u0, u1, u2, v0, v1⟩ := (hK7H.out.keep (Below.tr hE9.out hB10)).cells; have hB10H := hide (Below.tr hE9.out hB10); clear hB10))
              have hfin := hide (Below.tr hBw7H.out (Below.al hB10H.out (.cells #[.bool x10, .string y10, .int .u64 z10] 24)))
              clear u0 u1 u2 v0 v1 t0 t1 t2 r0 r1 h37 hK7H
              cases hb
              all_goals go_wp2_with fail
              all_goals go_ret
              all_goals exact ⟨rfl, hfin.out⟩
          · replace e1 := e1 rfl
            go_upto_region 11 with fail
            · go_ret
              exact ⟨rfl, hB3H.out⟩
            · have h13 := hide (cond13 w.heap.size h1 a1 h2 a2 p1 p2 l1 c1 l2 c2 V1 V2 wc (hu1H.out.keep hB3H.out) (hu2H.out.keep hB3H.out) hB3H.out.size (by have := hl1H.out; omega) (by have := hl2H.out; omega))
              go_upto_region 12 with (first | (go_at_call 13; refine h13.out.mono ?_; rintro e W4 ⟨q1, d1, q2, d2, rfl, hB4, hq1, hq2, hn1, hn2⟩; obtain ⟨⟨t0, t1, t2⟩, y0, y1, y2, y3, y4, y5, yf⟩ := (hX3H.out.keep hB4).cells; have hB4H := hide hB4; have hq1H := hide hq1; have hq2H := hide hq2; have hn1H := hide hn1; have hn2H := hide hn2; clear hB4 hq1 hq2 hn1 hn2))
              obtain ⟨W5, hW5⟩ : ∃ W5, W5 = ((((((W4.setCell ⟨w.heap.size + 1, 0, none⟩ (.bool h1)).setCell ⟨w.heap.size + 1, 1, none⟩ (.bool a1)).setCell ⟨w.heap.size + 1, 2, none⟩ (.slice q1 l1 d1)).setCell ⟨w.heap.size + 1, 3, none⟩ (.bool h2)).setCell ⟨w.heap.size + 1, 4, none⟩ (.bool a2)).setCell ⟨w.heap.size + 1, 5, none⟩ (.slice q2 l2 d2)) := ⟨_, rfl⟩
              rw [← hW5]
              obtain ⟨f1, f2, f3, f4⟩ := after13 w wc W4 true val sv h1 a1 h2 a2 p1 p2 q1 q2 l1 c1 d1 l2 c2 d2 V1 V2 hB3H.out hX3H.out hB4H.out hq1H.out hq2H.out hn1H.out hn2H.out W5 hW5
              obtain ⟨⟨s0, s1, s2⟩, x0, x1, x2, x3, x4, x5, xf⟩ := f2.cells
              have f1H := hide f1; have f2H := hide f2; have f3H := hide f3; have f4H := hide f4
              have h15 := hide (cond15 h1 a1 h2 a2 q1 q2 l1 d1 l2 d2 W5)
              clear f1 f2 f3 f4 hW5 hB4H hq1H hq2H hn1H hn2H h13 hX3H hB3H hu1H hu2H t0 t1 t2 y0 y1 y2 y3 y4 y5 yf s0' s1' s2' x0' x1' x2' x3' x4' x5' xf'
              clear W4
              go_upto_region 15 with fail
              go_upto_region 16 with (first | (go_at_call 15; refine h15.out.mono ?_; rintro e W6 ⟨m1, m2, rfl, hB6, hm1, hm2⟩; have hB6H := hide hB6; have hm1H := hide hm1; have hm2H := hide hm2; clear hB6 hm1 hm2))
              obtain ⟨hb, h3⟩ := three_ex W6 true val inv sv op v sv m1 m2 a1 a2 q1 q2 l1 d1 l2 d2 V1 V2 hm1H.out hm2H.out ((f3H.out.keep hB6H.out).move hB6H.out.size (fun _ _ => rfl)) ((f4H.out.keep hB6H.out).move hB6H.out.size (fun _ _ => rfl)) hl1H.out hl2H.out hopH.out (by intro h; first | exact hsH.out trivial | (cases h; done)) rfl
              obtain ⟨W7, hW7⟩ : ∃ W7, W7 = W6.alloc (.cells #[.pointer m1, .pointer m2] 35) := ⟨_, rfl⟩
              rw [← hW7]
              have hB67 : Below W6.heap.size W6 W7 := by rw [hW7]; exact Below.al (Below.refl _ _) _
              have hK7 : Kp w.heap.size W6.heap.size true val sv m1 m2 W7 := ⟨by rw [hW7, Below.heap_alloc _ _ _ (lt_of_heap (hB6H.out.block _ (lt_of_heap f2H.out.1) ▸ f2H.out.1))]; exact (hB6H.out.block _ (lt_of_heap f2H.out.1)).trans f2H.out.1, by rw [hW7]; exact heap_alloc_new _ _⟩
              have hBw7 : Below w.heap.size w W7 := Below.tr (Below.tr f1H.out hB6H.out) hB67
              have h37 : Hid (∀ W, Below W7.heap.size W7 W → _) := fun W hB => h3 W (Below.tr hB67 hB)
              have hK7H := hide hK7; have hBw7H := hide hBw7
              obtain ⟨t0, t1, t2, r0, r1⟩ := hK7.cells
              obtain ⟨g, hg⟩ : ∃ g, g = W6.heap.size := ⟨_, rfl⟩
              rw [← hg] at hK7H r0 r1 ⊢
              clear hg h3 hK7 hBw7 hB67 hW7 hm1H hm2H hB6H f1H f2H f3H f4H h15 s0 s1 s2 x0 x1 x2 x3 x4 x5 xf
              clear W6 W5
              go_upto_region 17 with (first | (go_at_call 19; refine (h37.out _ (Below.refl _ _)).1.mono ?_; rintro e W8 ⟨⟨x8, y8, z8, rfl⟩, hB8⟩; obtain ⟨u0, u1, u2, v0, v1⟩ := (hK7H.out.keep hB8).cells; have hB8H := hide hB8; clear hB8))
              have hE8 := hide (Below.al hB8H.out (.cells #[.bool x8, .string y8, .int .u64 z8] 24))
              obtain ⟨E8, hE8e⟩ : ∃ E8, E8 = W8.alloc (.cells #[.bool x8, .string y8, .int .u64 z8] 24) := ⟨_, rfl⟩
              rw [← hE8e] at hE8 ⊢
              clear hE8e u0 u1 u2 v0 v1 t0 t1 t2 r0 r1 hB8H
              obtain ⟨t0, t1, t2, r0, r1⟩ := (hK7H.out.keep hE8.out).cells
              go_upto_region 18 with (first | (go_at_call 19; refine (h37.out _ hE8.out).2.1.mono ?_; rintro e W9 ⟨⟨x9, y9, z9, rfl⟩, hB9⟩; obtain ⟨u0, u1, u2, v0, v1⟩ := (hK7H.out.keep (Below.tr hE8.out hB9)).cells; have hB9H := hide (Below.tr hE8.out hB9); clear hB9))
              have hE9 := hide (Below.al hB9H.out (.cells #[.bool x9, .string y9, .int .u64 z9] 24))
              obtain ⟨E9, hE9e⟩ : ∃ E9, E9 = W9.alloc (.cells #[.bool x9, .string y9, .int .u64 z9] 24) := ⟨_, rfl⟩
              rw [← hE9e] at hE9 ⊢
              clear hE9e u0 u1 u2 v0 v1 t0 t1 t2 r0 r1 hB9H hE8
              obtain ⟨t0, t1, t2, r0, r1⟩ := (hK7H.out.keep hE9.out).cells
              go_upto_region 19 with (first | (go_at_call 19; refine (h37.out _ hE9.out).2.2.mono ?_; rintro e W10 ⟨⟨x10, y10, z10, rfl⟩, hB10⟩; obtain ⟨u0, u1, u2, v0, v1⟩ := (hK7H.out.keep (Below.tr hE9.out hB10)).cells; have hB10H := hide (Below.tr hE9.out hB10); clear hB10))
              have hfin := hide (Below.tr hBw7H.out (Below.al hB10H.out (.cells #[.bool x10, .string y10, .int .u64 z10] 24)))
              clear u0 u1 u2 v0 v1 t0 t1 t2 r0 r1 h37 hK7H
              cases hb
              all_goals go_wp2_with fail
              all_goals go_ret
              all_goals exact ⟨rfl, hfin.out⟩
      all_goals go_ret
      all_goals exact ⟨rfl, hB1H.out⟩
    · have h10 := hide (big10t h1 a1 h2 a2 p1 p2 l1 c1 l2 c2 W1 hc)
      go_wp2_with (first | (go_at_call 10; refine h10.out.mono ?_; rintro e W2 ⟨rfl, hB2⟩))
      all_goals go_ret
      · exact ⟨rfl, hB1H.out.trans (hB2.mono hB1H.out.size)⟩
      · exact ⟨rfl, hB1H.out⟩
      · exact ⟨rfl, hB1H.out⟩
end Go.Proofs.Qxb6600422a
