import Derived.Test.Qxb6001038aR1
import Derived.Test.Qxb6001038aG10
import Derived.Deep.CutRange
namespace Go.Proofs.Qxb6001038a
open Go.RowKit
set_option linter.unusedVariables false
set_option linter.unusedSimpArgs false
attribute [local go_sem ↓] Go.wp_at_zero Go.wp_at_succ

theorem least (P : Nat → Prop) : ∀ m, (∃ k, k ≤ m ∧ P k) → ∃ k, P k ∧ ∀ j, P j → k ≤ j := by
  intro m
  induction m with
  | zero => rintro ⟨k, hk, hp⟩; exact ⟨k, hp, fun j _ => by omega⟩
  | succ m ih =>
    rintro ⟨k, hk, hp⟩
    by_cases h : ∃ k, k ≤ m ∧ P k
    · exact ih h
    · exact ⟨k, hp, fun j hj => Nat.le_of_not_lt fun hlt => h ⟨j, by omega, hj⟩⟩
open Classical in
/-- The least number of which P holds. -/
noncomputable def lst (P : Nat → Prop) : Nat := if h : ∃ k, P k ∧ ∀ j, P j → k ≤ j then h.choose else 0
theorem lst_spec {P : Nat → Prop} (h : ∃ k, P k) : P (lst P) ∧ ∀ j, P j → lst P ≤ j := by
  obtain ⟨k, hk⟩ := h
  have h' := least P k ⟨k, Nat.le_refl _, hk⟩
  unfold lst
  rw [dif_pos h']
  exact h'.choose_spec

/-- The state at the loop's head: the node at hand and its height. -/
def EdgeAt (base : Nat) (w : World) (σ : Nat → Option Nd) (n o h lo hi len : Nat) (last : Bool) (nv : Value) (wr : World) (hc : Nat) : Prop :=
  ∃ nc a b rc σr, nv = .pointer (some ⟨nc, 0, none⟩) ∧ Rep base wr σr ∧ Mut base w wr ∧ NB (some w.heap.size) wr σr ∧ EdgeInv σ n o h lo hi len last σr nc hc a b rc

theorem nb_new {base : Nat} {w : World} {σ : Nat → Option Nd} (hR : Rep base w σ) (c : Array Value) (hc : c.size = 4) : NB (some w.heap.size) (w.alloc (.cells c 75)) σ := fun b hb => by
  cases hb
  obtain ⟨ph, hp⟩ := hR
  refine ⟨⟨c, heap_alloc_new w _, hc⟩, fun m t v hm hv e => ?_⟩
  have hn := (hp.nd m t hm).node
  have h0 : (w.alloc (.cells c 75)).cell? ⟨m, 0, none⟩ = some (ph m).1 := (grown_alloc (w := w) (.cells c 75) none).cell (hp.c0 hm) (by simp)
  rw [h0] at hv
  cases hv
  obtain ⟨_, cc, hcc⟩ := ownsRow_tag (hp.nd m t hm).ents e
  have := lt_of_heap hcc
  omega

/-- A cell of the block R is written. -/
theorem rep_put1 {base R k : Nat} {w : World} {σ : Nat → Option Nd} {v : Value} (hR : Rep base w σ) (hN : NB (some R) w σ) (hb : base ≤ R) :
    Rep base (w.setCell ⟨R, k, none⟩ v) σ ∧ NB (some R) (w.setCell ⟨R, k, none⟩ v) σ ∧ Mut base w (w.setCell ⟨R, k, none⟩ v) := by
  obtain ⟨⟨c, hc, hc4⟩, hno⟩ := hN R rfl
  obtain ⟨ph, hp⟩ := hR
  have hne : ∀ m t, σ m = some t → R ≠ m := fun m t hm => heap_ne hc (hp.nd m t hm).node (by decide)
  have hg : w.grownBy (w.setCell ⟨R, k, none⟩ v) (some R) := ⟨rfl, rfl, rfl, Nat.le_of_eq (World.size_setCell _ _ _).symm, fun i _ hi => set_heap (fun e => hi (by rw [e]))⟩
  have key : ∀ (x : Nat) cc t fz, w.heap[x]? = some (.cells cc t fz) → x ≠ R → (w.setCell ⟨R, k, none⟩ v).heap[x]? = some (.cells cc t fz) := fun x cc t fz hx hxr => by rw [set_heap hxr]; exact hx
  refine ⟨⟨ph, ⟨fun m t hm => ?_, hp.sepE, hp.sepC⟩⟩, fun b hb' => ?_, Mut.setCell _ hb hc (.inr (.inl rfl))⟩
  · have hn := hp.nd m t hm
    refine ⟨hn.1, key _ _ _ _ hn.node (Ne.symm (hne m t hm)), hn.ents.kept hg (.inr (hno m t _ hm (hp.c0 hm))), hn.kids.kept hg (.inr (fun e => ?_)), hn.leaf, key _ _ _ _ hn.ownr (fun e => ?_)⟩
    · obtain ⟨_, cc, hcc⟩ := ownsRow_tag hn.kids e
      exact heap_ne hc hcc (by decide) rfl
    · have := hn.ownr
      rw [e, hc] at this
      cases this
  · cases hb'
    refine ⟨⟨c.setIfInBounds k v, heap_setCell_same w R k c 75 v hc, by simp [hc4]⟩, fun m t u hm hu => ?_⟩
    rw [World.cell?_setCell_far _ _ _ _ (hne m t hm)] at hu
    exact hno m t u hm hu

theorem NB.alloc {B : Option Nat} {base : Nat} {w : World} {σ : Nat → Option Nd} (hR : Rep base w σ) (h : NB B w σ) (o : Obj) : NB B (w.alloc o) σ := fun b hb => by
  obtain ⟨⟨c, hc, hc4⟩, hno⟩ := h b hb
  obtain ⟨ph, hp⟩ := hR
  have hg := grown_alloc (w := w) o Option.none
  refine ⟨⟨c, by rw [hg.block b (lt_of_heap hc) (by simp)]; exact hc, hc4⟩, fun m t v hm hv => ?_⟩
  rw [hg.cell (hp.c0 hm) (by simp)] at hv
  exact hno m t v hm (by rw [hp.c0 hm]; exact hv)
theorem row4 {w : World} {R : Nat} {c : Array Value} (h : w.heap[R]? = some (.cells c 75 (0, 0))) (h4 : c.size = 4) :
    (∃ u0 u1 u2 u3, w.cell? ⟨R, 0, none⟩ = some u0 ∧ w.cell? ⟨R, 1, none⟩ = some u1 ∧ w.cell? ⟨R, 2, none⟩ = some u2 ∧ w.cell? ⟨R, 3, none⟩ = some u3) ∧ ∀ i, w.frozen? ⟨R, i, none⟩ = false := by
  refine ⟨⟨c[0], c[1], c[2], c[3], ?_, ?_, ?_, ?_⟩, fun i => frozen_of_row w R i c 75 h⟩
  · rw [cell_of_row w R 0 c 75 _ h]; simp
  · rw [cell_of_row w R 1 c 75 _ h]; simp
  · rw [cell_of_row w R 2 c 75 _ h]; simp
  · rw [cell_of_row w R 3 c 75 _ h]; simp

theorem row4_set {w : World} {R : Nat} {c : Array Value} (h : w.heap[R]? = some (.cells c 75 (0, 0))) (h4 : c.size = 4) (v0 v1 v2 v3 : Value) :
    ((((w.setCell ⟨R, 0, none⟩ v0).setCell ⟨R, 1, none⟩ v1).setCell ⟨R, 2, none⟩ v2).setCell ⟨R, 3, none⟩ v3).heap[R]? = some (.cells #[v0, v1, v2, v3] 75 (0, 0)) := by
  have h1 := heap_setCell_same w R 0 c 75 v0 h
  have h2 := heap_setCell_same _ R 1 _ 75 v1 h1
  have h3 := heap_setCell_same _ R 2 _ 75 v2 h2
  have h5 := heap_setCell_same _ R 3 _ 75 v3 h3
  rw [h5]
  obtain ⟨l⟩ := c
  match l, h4 with
  | [a, b, d, e], _ => rfl
theorem size75 : (Try.prog.info? 75).map (·.size) = some 4 := by kernel_rfl

/-- An entry, as a value. -/
def entV (k : Nat) : Value := .agg #[.string (p6 k), .slice none 0 0, .int .u64 k, .int .u64 0]

set_option maxHeartbeats 8000000 in
set_option maxRecDepth 100000 in
theorem removeEdge_F (base n o h lo hi : Nat) (r : Nd) (σ : Nat → Option Nd) (w : World) (hR : Rep base w σ) (hr : σ n = some r) (ho : r.own = o) (hB : Body σ h r lo hi) (h16 : 16 ≤ r.es.length) (h31 : r.es.length ≤ 31) (hbase : base ≤ w.heap.size) :
    Calls Try.prog 49 #[.pointer (some ⟨n, 0, none⟩), .bool false] w fun e w' => e = .returned (entV (lo)) ∧ ∃ σ', Rep base w' σ' ∧ Mut base w w' ∧ EdgeFin σ σ' n o h lo hi r.es.length false := by
  have hE0 : ∀ c : Array Value, c.size = 4 → EdgeAt base w σ n o h lo hi r.es.length false (.pointer (some ⟨n, 0, none⟩)) (w.alloc (.cells c 75)) h := fun c hc => ⟨n, lo, hi, r, σ, rfl, hR.alloc _, Mut.alloc _ _ hbase, nb_new hR c hc, edge_start hr ho hB h16 h31⟩
  have hEH := hide hE0
  obtain ⟨L, hL⟩ : ∃ L, L = r.es.length := ⟨_, rfl⟩
  rw [← hL] at hEH ⊢
  clear hE0 hR hr ho hB h16 h31 hL
  go_enter Try.func49, Try.ntmps49
  go_wp2_with fail
  go_loopw [0] (fun nv wr => ∃ nc, nv = .pointer (some ⟨nc, 0, none⟩) ∧ Hid (∃ hc, EdgeAt base w σ n o h lo hi L false nv wr hc)) (fun nv wr => lst (EdgeAt base w σ n o h lo hi L false nv wr))
  case atStart => exact ⟨n, rfl, hide ⟨h, hEH.out _ rfl⟩⟩
  case round =>
    obtain ⟨nc, rfl, hI⟩ := hrel
    obtain ⟨hAt, hmin⟩ := lst_spec hI.out
    obtain ⟨hc, hhc⟩ : ∃ hc, lst (EdgeAt base w σ n o h lo hi L false (.pointer (some ⟨nc, 0, none⟩)) wr) = hc := ⟨_, rfl⟩
    rw [hhc] at hAt hmin
    have hhcH := hide hhc
    clear hhc hI hmin
    obtain ⟨nc', a, b, rc, σr, he, hRr, hMr, hNr, hInv⟩ := hAt
    obtain rfl : nc = nc' := by cases he; rfl
    clear he
    have hbr : base ≤ wr.heap.size := Nat.le_trans hbase hMr.size
    have h16 := hInv.l16; have h31 := hInv.l31
    obtain ⟨R, hRd⟩ : ∃ R, R = w.heap.size := ⟨_, rfl⟩
    rw [← hRd] at hNr
    have hbR : base ≤ R := by omega
    cases hc with
    | zero =>
      subst hRd
      obtain ⟨e1, he1⟩ : ∃ e1, rc.es.length = e1 + 1 := ⟨rc.es.length - 1, by omega⟩
      have hend := edge_end (i := 0) hInv rfl
      obtain ⟨kk, hkk⟩ : ∃ kk, kk = rc.es.getD 0 0 := ⟨_, rfl⟩
      have hcs0 : rc.cs = [] := hInv.body.1
      have hnd := hInv.nd
      obtain ⟨ph, hp⟩ := hRr
      have hpE : RepP base (wr.alloc (ebox kk)) σr ph := hp.keep fun b c t fz hc _ => by rw [Below.heap_alloc _ _ b (lt_of_heap hc)]; exact hc
      have hNE : NB (some w.heap.size) (wr.alloc (ebox kk)) σr := hNr.alloc ⟨ph, hp⟩ _
      have hbE : base ≤ (wr.alloc (ebox kk)).heap.size := by simp; omega
      obtain ⟨g, cap, hF⟩ := delEF hpE hnd (j := 0) (e1 := e1) he1 (by omega) hbE
      have c0 := hp.c0 hnd
      rw [hF.pe] at c0
      have c1 := hp.c1 hnd
      rw [(hp.nd nc rc hnd).leaf hcs0] at c1
      obtain ⟨k0, k1, k2, k3⟩ := ent_cell hp hnd hF.pe 0 (by omega)
      rw [← hkk] at k0 k2
      simp only [Nat.zero_mul, Nat.zero_add] at k0 k1 k2 k3
      obtain ⟨_, cg, hcg⟩ := ownsRow_tag hF.own (b := g) rfl
      obtain ⟨⟨cR, hcR, hcR4⟩, hnoR⟩ := hNE _ rfl
      have hgR : w.heap.size ≠ g := fun e => hnoR nc rc _ hnd hF.d0 (by rw [e]; rfl)
      have hgl : g < wr.heap.size := by
        obtain ⟨_, cg2, hcg2⟩ := ownsRow_tag (hp.nd nc rc hnd).ents (b := g) (by rw [hF.pe]; rfl)
        exact lt_of_heap hcg2
      have hnl : nc < wr.heap.size := lt_of_heap (hp.nd nc rc hnd).node
      have hRl : w.heap.size < wr.heap.size := by
        obtain ⟨⟨c, hc, _⟩, _⟩ := hNr _ rfl
        exact lt_of_heap hc
      have hRn : w.heap.size ≠ nc := by
        obtain ⟨⟨c, hc, _⟩, _⟩ := hNr _ rfl
        exact heap_ne hc (hp.nd nc rc hnd).node (by decide)
      have hE1 : wr.heap.size ≠ nc := by omega
      have hE2 : w.heap.size ≠ wr.heap.size := by omega
      obtain ⟨E, hEd⟩ : ∃ E, E = wr.heap.size := ⟨_, rfl⟩
      have hfar : Hid (∀ w8, (wr.alloc (ebox kk)).grownBy w8 (some g) → (w8.cell? ⟨wr.heap.size, 0, none⟩ = some (.string (p6 kk)) ∧ w8.cell? ⟨wr.heap.size, 1, none⟩ = some (.slice none 0 0) ∧ w8.cell? ⟨wr.heap.size, 2, none⟩ = some (.int .u64 kk) ∧ w8.cell? ⟨wr.heap.size, 3, none⟩ = some (.int .u64 0)) ∧
          (∃ u0 u1 u2 u3, w8.cell? ⟨w.heap.size, 0, none⟩ = some u0 ∧ w8.cell? ⟨w.heap.size, 1, none⟩ = some u1 ∧ w8.cell? ⟨w.heap.size, 2, none⟩ = some u2 ∧ w8.cell? ⟨w.heap.size, 3, none⟩ = some u3) ∧ (∀ i, w8.frozen? ⟨w.heap.size, i, none⟩ = false) ∧ w8.heap[w.heap.size]? = some (.cells cR 75 (0, 0))) := fun w8 hg8 => by
        have hb : (wr.alloc (ebox kk)).heap[wr.heap.size]? = some (ebox kk) := heap_alloc_new wr _
        have hb8 : w8.heap[wr.heap.size]? = some (ebox kk) := by rw [hg8.block _ (lt_of_heap hb) (fun e => by cases e; omega)]; exact hb
        have hR8 : w8.heap[w.heap.size]? = some (.cells cR 75 (0, 0)) := by rw [hg8.block _ (lt_of_heap hcR) (fun e => hgR (Option.some.inj e))]; exact hcR
        have hr4 := row4 hR8 hcR4
        refine ⟨⟨?_, ?_, ?_, ?_⟩, hr4.1, hr4.2, hR8⟩
        · rw [cell_of_row w8 _ 0 _ 75 _ hb8]; rfl
        · rw [cell_of_row w8 _ 1 _ 75 _ hb8]; rfl
        · rw [cell_of_row w8 _ 2 _ 75 _ hb8]; rfl
        · rw [cell_of_row w8 _ 3 _ 75 _ hb8]; rfl
      have hkey : kk = lo := hkk.trans hend.1
      have hB1 : (0 : Int) < (e1 : Int) + 1 := by omega
      have hmw : IntKind.i64.wrap ((e1 : Int) + 1 - 1) = e1 := by rw [show ((e1 : Int) + 1 - 1) = e1 by omega]; exact wrap_nat e1 (by omega)
      have hmw2 : IntKind.i64.wrap (e1 : Int) = e1 := wrap_nat e1 (by omega)
      have hmw3 : IntKind.i64.wrap ((e1 : Int) + 1) = (e1 : Int) + 1 := wrap_nat (e1 + 1) (by omega)
      have hl0 : (((0 : Nat) : Int) == 0) = true := by decide
      have hFH := hide hF; have hpEH := hide hpE; have hNEH := hide hNE; have hMrH := hide hMr; have hendH := hide hend; have hndH := hide hnd; have hkeyH := hide hkey
      clear hF hpE hNE hMr hend hnd hkey hInv hkk hcs0 hp hcg hcR hnoR hNr he1 hhcH hEd
      go_wp2_with (first
        | (go_at_call 41; refine (leaf_any nc _ 0 _ _ c1).mono ?_; rintro e wr ⟨rfl, rfl⟩)
        | (go_at_call 46; refine (delE g (e1 + 1) cap 0 base _ _ (encE rc.es) _ hFH.out.own (by simp) (by simp) (by omega) (encE_cell1 _)).mono ?_; rintro e w8 ⟨rfl, hown8, hgr8⟩; have f8 := (hFH.out.far _ hgr8).1; have q8 := (hFH.out.far _ hgr8).2; obtain ⟨⟨x0, x1, x2, x3⟩, ⟨u0, u1, u2, u3, y0, y1, y2, y3⟩, fz8, hR8⟩ := hfar.out _ hgr8))
      have hgf := row4_set (w := w8.setCell ⟨nc, 0, none⟩ (.slice (some ⟨g, 0, none⟩) e1 cap)) (by rw [set_heap (by exact hRn)]; exact hR8) hcR4 (.string (p6 kk)) (.slice none 0 0) (.int .u64 kk) (.int .u64 0)
      (try simp only [Exit.inBlock, Exit.then])
      refine bodyPost_ret (results_cell_row rfl _ _ w.heap.size 75 _ (0, 0) _ rfl hgf Try.underlying75 rfl size75) rfl ?_
      go_light
      have hfin := hFH.out.fin w8 hgr8 hown8
      have hNB := nb_E (s' := { rc with es := rc.es.take 0 ++ rc.es.drop (0 + 1) }) hpEH.out hNEH.out hndH.out hFH.out.d0 hgr8 (g8 := g) (len := e1) (cap8 := cap) (.inl rfl)
      have r1 := rep_put1 (k := 0) (v := .string (p6 kk)) hfin.1 hNB hbR
      have r2 := rep_put1 (k := 1) (v := .slice none 0 0) r1.1 r1.2.1 hbR
      have r3 := rep_put1 (k := 2) (v := .int .u64 kk) r2.1 r2.2.1 hbR
      have r4 := rep_put1 (k := 3) (v := .int .u64 0) r3.1 r3.2.1 hbR
      refine ⟨by rw [← hkeyH.out]; rfl, _, r4.1, hMrH.out.trans ((Mut.alloc _ _ hbr).trans (hfin.2.trans (r1.2.2.trans (r2.2.2.trans (r3.2.2.trans r4.2.2))))), hendH.out.2⟩
    | succ k =>
      have hk : Kids (Sub σr k) rc.cs rc.es a b := hInv.body
      have hcl := kids_len hk
      obtain ⟨m, hm⟩ : ∃ m, m = rc.es.length := ⟨_, rfl⟩
      have hgr := grow_any (some R) base nc k a b (0) ((0 : Nat) : Int) rc σr wr.drew rfl (hRr.keep fun _ _ _ _ hc _ => hc) hNr hInv.nd hk (by omega) (by omega) h31 hbr
      obtain ⟨ph, hp⟩ := hRr
      obtain ⟨gc, capc, hvc, hlc, hlm, hgcl⟩ := ownsRow_pos (hp.nd nc rc hInv.nd).kids (by omega)
      have c1 := hp.c1 hInv.nd
      rw [hvc, hcl, ← hm] at c1
      have hmw : IntKind.i64.wrap ((m : Int) + 1 - 1) = m := by rw [show ((m : Int) + 1 - 1) = m by omega]; exact wrap_nat m (by omega)
      have hmw2 : IntKind.i64.wrap (m : Int) = m := wrap_nat m (by omega)
      have hgrH := hide hgr; have hInvH := hide hInv; have hMrH := hide hMr; have hmH := hide hm; have hRdH := hide hRd
      clear hgr hInv hMr hm hp hvc hlc hlm hk hcl hNr hRd
      go_upto_region 5 with (first | (go_at_call 41; refine (leaf_no nc _ (m + 1) _ _ (by omega) c1).mono ?_; rintro e wr ⟨rfl, rfl⟩))
      refine wp_region_held_drew (S := fun _ => True) (by kernel_rfl) trivial (fun hHeld => ?_)
      refine wpAnyH_take (i := 0) (v := ?_) rfl (by kernel_rfl) (by kernel_rfl) (by kernel_rfl) (fun _ _ _ h => h) (Or.inl ⟨by rfl, ?_⟩) hHeld ?_
      rotate_left
      · (intro w hSw; (try dsimp only at hSw); go_simp; try with_reducible rfl)
      try simp only [Act.put, List.setIfInBounds_toArray, List.set_cons_zero, List.set_cons_succ]
      refine wpAnyH_take (i := 1) (v := ?_) rfl (by kernel_rfl) (by kernel_rfl) (by kernel_rfl) (fun _ _ _ h => h) (Or.inl ⟨by rfl, ?_⟩) hHeld ?_
      rotate_left
      · (intro w hSw; (try dsimp only at hSw); go_simp; try with_reducible rfl)
      try simp only [Act.put, List.setIfInBounds_toArray, List.set_cons_zero, List.set_cons_succ]
      refine wpAnyH_take (i := 2) (v := ?_) rfl (by kernel_rfl) (by kernel_rfl) (by kernel_rfl) (fun _ _ _ h => h) (Or.inl ⟨by rfl, ?_⟩) hHeld ?_
      rotate_left
      · (intro w hSw; (try dsimp only at hSw); go_simp; try with_reducible rfl)
      try simp only [Act.put, List.setIfInBounds_toArray, List.set_cons_zero, List.set_cons_succ]
      refine wpAnyH_take (i := 4) (v := ?_) rfl (by kernel_rfl) (by kernel_rfl) (by kernel_rfl) (fun _ _ _ h => h) (Or.inl ⟨by rfl, ?_⟩) hHeld ?_
      rotate_left
      · (intro w hSw; (try dsimp only at hSw); go_simp; try with_reducible rfl)
      try simp only [Act.put, List.setIfInBounds_toArray, List.set_cons_zero, List.set_cons_succ]
      refine wpAnyH_take (i := 5) (v := ?_) rfl (by kernel_rfl) (by kernel_rfl) (by kernel_rfl) (fun _ _ _ h => h) (Or.inl ⟨by rfl, ?_⟩) hHeld ?_
      rotate_left
      · (intro w hSw; (try dsimp only at hSw); go_simp; try with_reducible rfl)
      try simp only [Act.put, List.setIfInBounds_toArray, List.set_cons_zero, List.set_cons_succ]
      refine wpAnyH_ready (rs := [3, 6]) (by kernel_rfl) (by simp) ?_
      refine AllReadyH.cons rfl (fun K hK => ?_) (AllReadyH.cons rfl (fun K hK => ?_) AllReadyH.nil)
      · go_simp
        refine hK.out _ _ trivial (fun hHeld => ?_)
        clear hK K
        try simp only [Act.put, List.setIfInBounds_toArray, List.set_cons_zero, List.set_cons_succ]
        refine wpAnyH_ready (rs := [6]) (by kernel_rfl) (by simp) ?_
        refine AllReadyH.cons rfl (fun K hK => ?_) AllReadyH.nil
        go_simp
        refine hgrH.out.mono ?_
        rintro e W2 ⟨j, r', s', σ', rfl, g1, g2, g3, g4, g5, g6, g7, g8, g9, g10, g11, g12, g13, g14, g15, g16, g17⟩
        obtain ⟨L2, cap2, kc1⟩ := g16 gc (m + 1) capc c1
        obtain ⟨c2, hc2, kc2, hL2⟩ : ∃ c2, c2 = r'.cs.getD j 0 ∧ W2.cell? ⟨gc, j, none⟩ = some (.pointer (some ⟨c2, 0, none⟩)) ∧ L2 = r'.cs.length := by
          obtain ⟨ph2, hp2⟩ := g1
          have hl2 := kids_len g5
          obtain ⟨gc2, capc2, hvc2, _, _, _⟩ := ownsRow_pos (hp2.nd nc r' g3).kids (by omega)
          have c12 := hp2.c1 g3
          rw [hvc2, kc1] at c12
          cases c12
          exact ⟨_, rfl, kid_cell hp2 g3 hvc2 j (by omega), rfl⟩
        have hl2 := kids_len g5
        have hj1 : (j : Int) < (m : Int) + 1 := by have := hmH.out; omega
        have hj2 : (j : Int) < (L2 : Int) := by omega
        have hnew : Hid (EdgeAt base w σ n o h lo hi L false (.pointer (some ⟨c2, 0, none⟩)) W2 k) := by
          rw [hc2]
          exact ⟨_, _, _, s', σ', rfl, g1, hMrH.out.drew.trans g2, by rw [← hRdH.out]; exact g17, edge_step (i := 0) hInvH.out rfl g3 g4 g5 g6 g7 g8 g9 g10 g11 g12 g13 g15⟩
        clear g1 g2 g3 g4 g5 g6 g7 g8 g9 g10 g11 g12 g13 g14 g15 g16 g17 hl2 hc2 hL2
        go_wp2_with fail
        refine hK.out _ _ trivial (fun hHeld => ?_)
        clear hK K
        try simp only [Act.put, List.setIfInBounds_toArray, List.set_cons_zero, List.set_cons_succ]
        refine wpAnyH_take (i := 7) (v := ?_) rfl (by kernel_rfl) (by kernel_rfl) (by kernel_rfl) (fun _ _ _ h => h) (Or.inl ⟨by rfl, ?_⟩) hHeld ?_
        rotate_left
        · (intro w hSw; (try dsimp only at hSw); go_simp; try with_reducible rfl)
        try simp only [Act.put, List.setIfInBounds_toArray, List.set_cons_zero, List.set_cons_succ]
        refine wpAnyH_ready (rs := [8]) (by kernel_rfl) (by simp) ?_
        refine AllReadyH.cons rfl (fun K hK => ?_) AllReadyH.nil
        go_simp
        refine hK.out _ _ trivial (fun hHeld => ?_)
        clear hK K
        try simp only [Act.put, List.setIfInBounds_toArray, List.set_cons_zero, List.set_cons_succ]
        refine wpAnyH_ready (rs := [9]) (by kernel_rfl) (by simp) ?_
        refine AllReadyH.cons rfl (fun K hK => ?_) AllReadyH.nil
        go_simp
        refine hK.out _ _ trivial (fun hHeld => ?_)
        clear hK K
        try simp only [Act.put, List.setIfInBounds_toArray, List.set_cons_zero, List.set_cons_succ]
        refine wpAnyH_done (by kernel_rfl) ?_ _
        go_wp2_with fail
        go_roundw
        case rel => exact ⟨c2, rfl, hide ⟨k, hnew.out⟩⟩
        case measure =>
          rw [hhcH.out]
          exact Nat.lt_succ_of_le ((lst_spec ⟨k, hnew.out⟩).2 k hnew.out)
      · go_simp
        refine hgrH.out.mono ?_
        rintro e W2 ⟨j, r', s', σ', rfl, g1, g2, g3, g4, g5, g6, g7, g8, g9, g10, g11, g12, g13, g14, g15, g16, g17⟩
        obtain ⟨L2, cap2, kc1⟩ := g16 gc (m + 1) capc c1
        obtain ⟨c2, hc2, kc2, hL2⟩ : ∃ c2, c2 = r'.cs.getD j 0 ∧ W2.cell? ⟨gc, j, none⟩ = some (.pointer (some ⟨c2, 0, none⟩)) ∧ L2 = r'.cs.length := by
          obtain ⟨ph2, hp2⟩ := g1
          have hl2 := kids_len g5
          obtain ⟨gc2, capc2, hvc2, _, _, _⟩ := ownsRow_pos (hp2.nd nc r' g3).kids (by omega)
          have c12 := hp2.c1 g3
          rw [hvc2, kc1] at c12
          cases c12
          exact ⟨_, rfl, kid_cell hp2 g3 hvc2 j (by omega), rfl⟩
        have hl2 := kids_len g5
        have hj1 : (j : Int) < (m : Int) + 1 := by have := hmH.out; omega
        have hj2 : (j : Int) < (L2 : Int) := by omega
        have hnew : Hid (EdgeAt base w σ n o h lo hi L false (.pointer (some ⟨c2, 0, none⟩)) W2 k) := by
          rw [hc2]
          exact ⟨_, _, _, s', σ', rfl, g1, hMrH.out.drew.trans g2, by rw [← hRdH.out]; exact g17, edge_step (i := 0) hInvH.out rfl g3 g4 g5 g6 g7 g8 g9 g10 g11 g12 g13 g15⟩
        clear g1 g2 g3 g4 g5 g6 g7 g8 g9 g10 g11 g12 g13 g14 g15 g16 g17 hl2 hc2 hL2
        go_wp2_with fail
        refine hK.out _ _ trivial (fun hHeld => ?_)
        clear hK K
        try simp only [Act.put, List.setIfInBounds_toArray, List.set_cons_zero, List.set_cons_succ]
        refine wpAnyH_ready (rs := [3]) (by kernel_rfl) (by simp) ?_
        refine AllReadyH.cons rfl (fun K hK => ?_) AllReadyH.nil
        go_simp
        refine hK.out _ _ trivial (fun hHeld => ?_)
        clear hK K
        try simp only [Act.put, List.setIfInBounds_toArray, List.set_cons_zero, List.set_cons_succ]
        refine wpAnyH_take (i := 7) (v := ?_) rfl (by kernel_rfl) (by kernel_rfl) (by kernel_rfl) (fun _ _ _ h => h) (Or.inl ⟨by rfl, ?_⟩) hHeld ?_
        rotate_left
        · (intro w hSw; (try dsimp only at hSw); go_simp; try with_reducible rfl)
        try simp only [Act.put, List.setIfInBounds_toArray, List.set_cons_zero, List.set_cons_succ]
        refine wpAnyH_ready (rs := [8]) (by kernel_rfl) (by simp) ?_
        refine AllReadyH.cons rfl (fun K hK => ?_) AllReadyH.nil
        go_simp
        refine hK.out _ _ trivial (fun hHeld => ?_)
        clear hK K
        try simp only [Act.put, List.setIfInBounds_toArray, List.set_cons_zero, List.set_cons_succ]
        refine wpAnyH_ready (rs := [9]) (by kernel_rfl) (by simp) ?_
        refine AllReadyH.cons rfl (fun K hK => ?_) AllReadyH.nil
        go_simp
        refine hK.out _ _ trivial (fun hHeld => ?_)
        clear hK K
        try simp only [Act.put, List.setIfInBounds_toArray, List.set_cons_zero, List.set_cons_succ]
        refine wpAnyH_done (by kernel_rfl) ?_ _
        go_wp2_with fail
        go_roundw
        case rel => exact ⟨c2, rfl, hide ⟨k, hnew.out⟩⟩
        case measure =>
          rw [hhcH.out]
          exact Nat.lt_succ_of_le ((lst_spec ⟨k, hnew.out⟩).2 k hnew.out)

set_option maxHeartbeats 8000000 in
set_option maxRecDepth 100000 in
theorem removeEdge_L (base n o h lo hi : Nat) (r : Nd) (σ : Nat → Option Nd) (w : World) (hR : Rep base w σ) (hr : σ n = some r) (ho : r.own = o) (hB : Body σ h r lo hi) (h16 : 16 ≤ r.es.length) (h31 : r.es.length ≤ 31) (hbase : base ≤ w.heap.size) :
    Calls Try.prog 49 #[.pointer (some ⟨n, 0, none⟩), .bool true] w fun e w' => e = .returned (entV (hi - 1)) ∧ ∃ σ', Rep base w' σ' ∧ Mut base w w' ∧ EdgeFin σ σ' n o h lo hi r.es.length true := by
  have hE0 : ∀ c : Array Value, c.size = 4 → EdgeAt base w σ n o h lo hi r.es.length true (.pointer (some ⟨n, 0, none⟩)) (w.alloc (.cells c 75)) h := fun c hc => ⟨n, lo, hi, r, σ, rfl, hR.alloc _, Mut.alloc _ _ hbase, nb_new hR c hc, edge_start hr ho hB h16 h31⟩
  have hEH := hide hE0
  obtain ⟨L, hL⟩ : ∃ L, L = r.es.length := ⟨_, rfl⟩
  rw [← hL] at hEH ⊢
  clear hE0 hR hr ho hB h16 h31 hL
  go_enter Try.func49, Try.ntmps49
  go_wp2_with fail
  go_loopw [0] (fun nv wr => ∃ nc, nv = .pointer (some ⟨nc, 0, none⟩) ∧ Hid (∃ hc, EdgeAt base w σ n o h lo hi L true nv wr hc)) (fun nv wr => lst (EdgeAt base w σ n o h lo hi L true nv wr))
  case atStart => exact ⟨n, rfl, hide ⟨h, hEH.out _ rfl⟩⟩
  case round =>
    obtain ⟨nc, rfl, hI⟩ := hrel
    obtain ⟨hAt, hmin⟩ := lst_spec hI.out
    obtain ⟨hc, hhc⟩ : ∃ hc, lst (EdgeAt base w σ n o h lo hi L true (.pointer (some ⟨nc, 0, none⟩)) wr) = hc := ⟨_, rfl⟩
    rw [hhc] at hAt hmin
    have hhcH := hide hhc
    clear hhc hI hmin
    obtain ⟨nc', a, b, rc, σr, he, hRr, hMr, hNr, hInv⟩ := hAt
    obtain rfl : nc = nc' := by cases he; rfl
    clear he
    have hbr : base ≤ wr.heap.size := Nat.le_trans hbase hMr.size
    have h16 := hInv.l16; have h31 := hInv.l31
    obtain ⟨R, hRd⟩ : ∃ R, R = w.heap.size := ⟨_, rfl⟩
    rw [← hRd] at hNr
    have hbR : base ≤ R := by omega
    cases hc with
    | zero =>
      subst hRd
      obtain ⟨e1, he1⟩ : ∃ e1, rc.es.length = e1 + 1 := ⟨rc.es.length - 1, by omega⟩
      have hend := edge_end (i := e1) hInv (by rw [if_pos rfl, he1]; rfl)
      obtain ⟨kk, hkk⟩ : ∃ kk, kk = rc.es.getD e1 0 := ⟨_, rfl⟩
      have hcs0 : rc.cs = [] := hInv.body.1
      have hnd := hInv.nd
      obtain ⟨ph, hp⟩ := hRr
      have hpE : RepP base (wr.alloc (ebox kk)) σr ph := hp.keep fun b c t fz hc _ => by rw [Below.heap_alloc _ _ b (lt_of_heap hc)]; exact hc
      have hNE : NB (some w.heap.size) (wr.alloc (ebox kk)) σr := hNr.alloc ⟨ph, hp⟩ _
      have hbE : base ≤ (wr.alloc (ebox kk)).heap.size := by simp; omega
      obtain ⟨g, cap, hF⟩ := delEF hpE hnd (j := e1) (e1 := e1) he1 (by omega) hbE
      have c0 := hp.c0 hnd
      rw [hF.pe] at c0
      have c1 := hp.c1 hnd
      rw [(hp.nd nc rc hnd).leaf hcs0] at c1
      obtain ⟨k0, k1, k2, k3⟩ := ent_cell hp hnd hF.pe e1 (by omega)
      rw [← hkk] at k0 k2
      skip
      obtain ⟨_, cg, hcg⟩ := ownsRow_tag hF.own (b := g) rfl
      obtain ⟨⟨cR, hcR, hcR4⟩, hnoR⟩ := hNE _ rfl
      have hgR : w.heap.size ≠ g := fun e => hnoR nc rc _ hnd hF.d0 (by rw [e]; rfl)
      have hgl : g < wr.heap.size := by
        obtain ⟨_, cg2, hcg2⟩ := ownsRow_tag (hp.nd nc rc hnd).ents (b := g) (by rw [hF.pe]; rfl)
        exact lt_of_heap hcg2
      have hnl : nc < wr.heap.size := lt_of_heap (hp.nd nc rc hnd).node
      have hRl : w.heap.size < wr.heap.size := by
        obtain ⟨⟨c, hc, _⟩, _⟩ := hNr _ rfl
        exact lt_of_heap hc
      have hRn : w.heap.size ≠ nc := by
        obtain ⟨⟨c, hc, _⟩, _⟩ := hNr _ rfl
        exact heap_ne hc (hp.nd nc rc hnd).node (by decide)
      have hE1 : wr.heap.size ≠ nc := by omega
      have hE2 : w.heap.size ≠ wr.heap.size := by omega
      obtain ⟨E, hEd⟩ : ∃ E, E = wr.heap.size := ⟨_, rfl⟩
      have hfar : Hid (∀ w8, (wr.alloc (ebox kk)).grownBy w8 (some g) → (w8.cell? ⟨wr.heap.size, 0, none⟩ = some (.string (p6 kk)) ∧ w8.cell? ⟨wr.heap.size, 1, none⟩ = some (.slice none 0 0) ∧ w8.cell? ⟨wr.heap.size, 2, none⟩ = some (.int .u64 kk) ∧ w8.cell? ⟨wr.heap.size, 3, none⟩ = some (.int .u64 0)) ∧
          (∃ u0 u1 u2 u3, w8.cell? ⟨w.heap.size, 0, none⟩ = some u0 ∧ w8.cell? ⟨w.heap.size, 1, none⟩ = some u1 ∧ w8.cell? ⟨w.heap.size, 2, none⟩ = some u2 ∧ w8.cell? ⟨w.heap.size, 3, none⟩ = some u3) ∧ (∀ i, w8.frozen? ⟨w.heap.size, i, none⟩ = false) ∧ w8.heap[w.heap.size]? = some (.cells cR 75 (0, 0))) := fun w8 hg8 => by
        have hb : (wr.alloc (ebox kk)).heap[wr.heap.size]? = some (ebox kk) := heap_alloc_new wr _
        have hb8 : w8.heap[wr.heap.size]? = some (ebox kk) := by rw [hg8.block _ (lt_of_heap hb) (fun e => by cases e; omega)]; exact hb
        have hR8 : w8.heap[w.heap.size]? = some (.cells cR 75 (0, 0)) := by rw [hg8.block _ (lt_of_heap hcR) (fun e => hgR (Option.some.inj e))]; exact hcR
        have hr4 := row4 hR8 hcR4
        refine ⟨⟨?_, ?_, ?_, ?_⟩, hr4.1, hr4.2, hR8⟩
        · rw [cell_of_row w8 _ 0 _ 75 _ hb8]; rfl
        · rw [cell_of_row w8 _ 1 _ 75 _ hb8]; rfl
        · rw [cell_of_row w8 _ 2 _ 75 _ hb8]; rfl
        · rw [cell_of_row w8 _ 3 _ 75 _ hb8]; rfl
      have hkey : kk = hi - 1 := hkk.trans hend.1
      have hB1 : (e1 : Int) < (e1 : Int) + 1 := by omega
      have hmw : IntKind.i64.wrap ((e1 : Int) + 1 - 1) = e1 := by rw [show ((e1 : Int) + 1 - 1) = e1 by omega]; exact wrap_nat e1 (by omega)
      have hmw2 : IntKind.i64.wrap (e1 : Int) = e1 := wrap_nat e1 (by omega)
      have hmw3 : IntKind.i64.wrap ((e1 : Int) + 1) = (e1 : Int) + 1 := wrap_nat (e1 + 1) (by omega)
      have hl0 : (((0 : Nat) : Int) == 0) = true := by decide
      have hFH := hide hF; have hpEH := hide hpE; have hNEH := hide hNE; have hMrH := hide hMr; have hendH := hide hend; have hndH := hide hnd; have hkeyH := hide hkey
      clear hF hpE hNE hMr hend hnd hkey hInv hkk hcs0 hp hcg hcR hnoR hNr he1 hhcH hEd
      go_wp2_with (first
        | (go_at_call 41; refine (leaf_any nc _ 0 _ _ c1).mono ?_; rintro e wr ⟨rfl, rfl⟩)
        | (go_at_call 46; refine (delE g (e1 + 1) cap e1 base _ _ (encE rc.es) _ hFH.out.own (by simp) (by simp) (by omega) (encE_cell1 _)).mono ?_; rintro e w8 ⟨rfl, hown8, hgr8⟩; have f8 := (hFH.out.far _ hgr8).1; have q8 := (hFH.out.far _ hgr8).2; obtain ⟨⟨x0, x1, x2, x3⟩, ⟨u0, u1, u2, u3, y0, y1, y2, y3⟩, fz8, hR8⟩ := hfar.out _ hgr8))
      have hgf := row4_set (w := w8.setCell ⟨nc, 0, none⟩ (.slice (some ⟨g, 0, none⟩) e1 cap)) (by rw [set_heap (by exact hRn)]; exact hR8) hcR4 (.string (p6 kk)) (.slice none 0 0) (.int .u64 kk) (.int .u64 0)
      (try simp only [Exit.inBlock, Exit.then])
      refine bodyPost_ret (results_cell_row rfl _ _ w.heap.size 75 _ (0, 0) _ rfl hgf Try.underlying75 rfl size75) rfl ?_
      go_light
      have hfin := hFH.out.fin w8 hgr8 hown8
      have hNB := nb_E (s' := { rc with es := rc.es.take e1 ++ rc.es.drop (e1 + 1) }) hpEH.out hNEH.out hndH.out hFH.out.d0 hgr8 (g8 := g) (len := e1) (cap8 := cap) (.inl rfl)
      have r1 := rep_put1 (k := 0) (v := .string (p6 kk)) hfin.1 hNB hbR
      have r2 := rep_put1 (k := 1) (v := .slice none 0 0) r1.1 r1.2.1 hbR
      have r3 := rep_put1 (k := 2) (v := .int .u64 kk) r2.1 r2.2.1 hbR
      have r4 := rep_put1 (k := 3) (v := .int .u64 0) r3.1 r3.2.1 hbR
      refine ⟨by rw [← hkeyH.out]; rfl, _, r4.1, hMrH.out.trans ((Mut.alloc _ _ hbr).trans (hfin.2.trans (r1.2.2.trans (r2.2.2.trans (r3.2.2.trans r4.2.2))))), hendH.out.2⟩
    | succ k =>
      have hk : Kids (Sub σr k) rc.cs rc.es a b := hInv.body
      have hcl := kids_len hk
      obtain ⟨m, hm⟩ : ∃ m, m = rc.es.length := ⟨_, rfl⟩
      have hgr := grow_any (some R) base nc k a b (m) ((m : Nat) : Int) rc σr wr.drew rfl (hRr.keep fun _ _ _ _ hc _ => hc) hNr hInv.nd hk (by omega) (by omega) h31 hbr
      obtain ⟨ph, hp⟩ := hRr
      obtain ⟨gc, capc, hvc, hlc, hlm, hgcl⟩ := ownsRow_pos (hp.nd nc rc hInv.nd).kids (by omega)
      have c1 := hp.c1 hInv.nd
      rw [hvc, hcl, ← hm] at c1
      have hmw : IntKind.i64.wrap ((m : Int) + 1 - 1) = m := by rw [show ((m : Int) + 1 - 1) = m by omega]; exact wrap_nat m (by omega)
      have hmw2 : IntKind.i64.wrap (m : Int) = m := wrap_nat m (by omega)
      have hgrH := hide hgr; have hInvH := hide hInv; have hMrH := hide hMr; have hmH := hide hm; have hRdH := hide hRd
      clear hgr hInv hMr hm hp hvc hlc hlm hk hcl hNr hRd
      go_upto_region 5 with (first | (go_at_call 41; refine (leaf_no nc _ (m + 1) _ _ (by omega) c1).mono ?_; rintro e wr ⟨rfl, rfl⟩))
      refine wp_region_held_drew (S := fun _ => True) (by kernel_rfl) trivial (fun hHeld => ?_)
      refine wpAnyH_take (i := 0) (v := ?_) rfl (by kernel_rfl) (by kernel_rfl) (by kernel_rfl) (fun _ _ _ h => h) (Or.inl ⟨by rfl, ?_⟩) hHeld ?_
      rotate_left
      · (intro w hSw; (try dsimp only at hSw); go_simp; try with_reducible rfl)
      try simp only [Act.put, List.setIfInBounds_toArray, List.set_cons_zero, List.set_cons_succ]
      refine wpAnyH_take (i := 1) (v := ?_) rfl (by kernel_rfl) (by kernel_rfl) (by kernel_rfl) (fun _ _ _ h => h) (Or.inl ⟨by rfl, ?_⟩) hHeld ?_
      rotate_left
      · (intro w hSw; (try dsimp only at hSw); go_simp; try with_reducible rfl)
      try simp only [Act.put, List.setIfInBounds_toArray, List.set_cons_zero, List.set_cons_succ]
      refine wpAnyH_take (i := 2) (v := ?_) rfl (by kernel_rfl) (by kernel_rfl) (by kernel_rfl) (fun _ _ _ h => h) (Or.inl ⟨by rfl, ?_⟩) hHeld ?_
      rotate_left
      · (intro w hSw; (try dsimp only at hSw); go_simp; try with_reducible rfl)
      try simp only [Act.put, List.setIfInBounds_toArray, List.set_cons_zero, List.set_cons_succ]
      refine wpAnyH_take (i := 4) (v := ?_) rfl (by kernel_rfl) (by kernel_rfl) (by kernel_rfl) (fun _ _ _ h => h) (Or.inl ⟨by rfl, ?_⟩) hHeld ?_
      rotate_left
      · (intro w hSw; (try dsimp only at hSw); go_simp; try with_reducible rfl)
      try simp only [Act.put, List.setIfInBounds_toArray, List.set_cons_zero, List.set_cons_succ]
      refine wpAnyH_take (i := 5) (v := ?_) rfl (by kernel_rfl) (by kernel_rfl) (by kernel_rfl) (fun _ _ _ h => h) (Or.inl ⟨by rfl, ?_⟩) hHeld ?_
      rotate_left
      · (intro w hSw; (try dsimp only at hSw); go_simp; try with_reducible rfl)
      try simp only [Act.put, List.setIfInBounds_toArray, List.set_cons_zero, List.set_cons_succ]
      refine wpAnyH_ready (rs := [3, 6]) (by kernel_rfl) (by simp) ?_
      refine AllReadyH.cons rfl (fun K hK => ?_) (AllReadyH.cons rfl (fun K hK => ?_) AllReadyH.nil)
      · go_simp
        refine hK.out _ _ trivial (fun hHeld => ?_)
        clear hK K
        try simp only [Act.put, List.setIfInBounds_toArray, List.set_cons_zero, List.set_cons_succ]
        refine wpAnyH_ready (rs := [6]) (by kernel_rfl) (by simp) ?_
        refine AllReadyH.cons rfl (fun K hK => ?_) AllReadyH.nil
        go_simp
        refine hgrH.out.mono ?_
        rintro e W2 ⟨j, r', s', σ', rfl, g1, g2, g3, g4, g5, g6, g7, g8, g9, g10, g11, g12, g13, g14, g15, g16, g17⟩
        obtain ⟨L2, cap2, kc1⟩ := g16 gc (m + 1) capc c1
        obtain ⟨c2, hc2, kc2, hL2⟩ : ∃ c2, c2 = r'.cs.getD j 0 ∧ W2.cell? ⟨gc, j, none⟩ = some (.pointer (some ⟨c2, 0, none⟩)) ∧ L2 = r'.cs.length := by
          obtain ⟨ph2, hp2⟩ := g1
          have hl2 := kids_len g5
          obtain ⟨gc2, capc2, hvc2, _, _, _⟩ := ownsRow_pos (hp2.nd nc r' g3).kids (by omega)
          have c12 := hp2.c1 g3
          rw [hvc2, kc1] at c12
          cases c12
          exact ⟨_, rfl, kid_cell hp2 g3 hvc2 j (by omega), rfl⟩
        have hl2 := kids_len g5
        have hj1 : (j : Int) < (m : Int) + 1 := by have := hmH.out; omega
        have hj2 : (j : Int) < (L2 : Int) := by omega
        have hnew : Hid (EdgeAt base w σ n o h lo hi L true (.pointer (some ⟨c2, 0, none⟩)) W2 k) := by
          rw [hc2]
          exact ⟨_, _, _, s', σ', rfl, g1, hMrH.out.drew.trans g2, by rw [← hRdH.out]; exact g17, edge_step (i := m) hInvH.out hmH.out g3 g4 g5 g6 g7 g8 g9 g10 g11 g12 g13 g15⟩
        clear g1 g2 g3 g4 g5 g6 g7 g8 g9 g10 g11 g12 g13 g14 g15 g16 g17 hl2 hc2 hL2
        go_wp2_with fail
        refine hK.out _ _ trivial (fun hHeld => ?_)
        clear hK K
        try simp only [Act.put, List.setIfInBounds_toArray, List.set_cons_zero, List.set_cons_succ]
        refine wpAnyH_take (i := 7) (v := ?_) rfl (by kernel_rfl) (by kernel_rfl) (by kernel_rfl) (fun _ _ _ h => h) (Or.inl ⟨by rfl, ?_⟩) hHeld ?_
        rotate_left
        · (intro w hSw; (try dsimp only at hSw); go_simp; try with_reducible rfl)
        try simp only [Act.put, List.setIfInBounds_toArray, List.set_cons_zero, List.set_cons_succ]
        refine wpAnyH_ready (rs := [8]) (by kernel_rfl) (by simp) ?_
        refine AllReadyH.cons rfl (fun K hK => ?_) AllReadyH.nil
        go_simp
        refine hK.out _ _ trivial (fun hHeld => ?_)
        clear hK K
        try simp only [Act.put, List.setIfInBounds_toArray, List.set_cons_zero, List.set_cons_succ]
        refine wpAnyH_ready (rs := [9]) (by kernel_rfl) (by simp) ?_
        refine AllReadyH.cons rfl (fun K hK => ?_) AllReadyH.nil
        go_simp
        refine hK.out _ _ trivial (fun hHeld => ?_)
        clear hK K
        try simp only [Act.put, List.setIfInBounds_toArray, List.set_cons_zero, List.set_cons_succ]
        refine wpAnyH_done (by kernel_rfl) ?_ _
        go_wp2_with fail
        go_roundw
        case rel => exact ⟨c2, rfl, hide ⟨k, hnew.out⟩⟩
        case measure =>
          rw [hhcH.out]
          exact Nat.lt_succ_of_le ((lst_spec ⟨k, hnew.out⟩).2 k hnew.out)
      · go_simp
        refine hgrH.out.mono ?_
        rintro e W2 ⟨j, r', s', σ', rfl, g1, g2, g3, g4, g5, g6, g7, g8, g9, g10, g11, g12, g13, g14, g15, g16, g17⟩
        obtain ⟨L2, cap2, kc1⟩ := g16 gc (m + 1) capc c1
        obtain ⟨c2, hc2, kc2, hL2⟩ : ∃ c2, c2 = r'.cs.getD j 0 ∧ W2.cell? ⟨gc, j, none⟩ = some (.pointer (some ⟨c2, 0, none⟩)) ∧ L2 = r'.cs.length := by
          obtain ⟨ph2, hp2⟩ := g1
          have hl2 := kids_len g5
          obtain ⟨gc2, capc2, hvc2, _, _, _⟩ := ownsRow_pos (hp2.nd nc r' g3).kids (by omega)
          have c12 := hp2.c1 g3
          rw [hvc2, kc1] at c12
          cases c12
          exact ⟨_, rfl, kid_cell hp2 g3 hvc2 j (by omega), rfl⟩
        have hl2 := kids_len g5
        have hj1 : (j : Int) < (m : Int) + 1 := by have := hmH.out; omega
        have hj2 : (j : Int) < (L2 : Int) := by omega
        have hnew : Hid (EdgeAt base w σ n o h lo hi L true (.pointer (some ⟨c2, 0, none⟩)) W2 k) := by
          rw [hc2]
          exact ⟨_, _, _, s', σ', rfl, g1, hMrH.out.drew.trans g2, by rw [← hRdH.out]; exact g17, edge_step (i := m) hInvH.out hmH.out g3 g4 g5 g6 g7 g8 g9 g10 g11 g12 g13 g15⟩
        clear g1 g2 g3 g4 g5 g6 g7 g8 g9 g10 g11 g12 g13 g14 g15 g16 g17 hl2 hc2 hL2
        go_wp2_with fail
        refine hK.out _ _ trivial (fun hHeld => ?_)
        clear hK K
        try simp only [Act.put, List.setIfInBounds_toArray, List.set_cons_zero, List.set_cons_succ]
        refine wpAnyH_ready (rs := [3]) (by kernel_rfl) (by simp) ?_
        refine AllReadyH.cons rfl (fun K hK => ?_) AllReadyH.nil
        go_simp
        refine hK.out _ _ trivial (fun hHeld => ?_)
        clear hK K
        try simp only [Act.put, List.setIfInBounds_toArray, List.set_cons_zero, List.set_cons_succ]
        refine wpAnyH_take (i := 7) (v := ?_) rfl (by kernel_rfl) (by kernel_rfl) (by kernel_rfl) (fun _ _ _ h => h) (Or.inl ⟨by rfl, ?_⟩) hHeld ?_
        rotate_left
        · (intro w hSw; (try dsimp only at hSw); go_simp; try with_reducible rfl)
        try simp only [Act.put, List.setIfInBounds_toArray, List.set_cons_zero, List.set_cons_succ]
        refine wpAnyH_ready (rs := [8]) (by kernel_rfl) (by simp) ?_
        refine AllReadyH.cons rfl (fun K hK => ?_) AllReadyH.nil
        go_simp
        refine hK.out _ _ trivial (fun hHeld => ?_)
        clear hK K
        try simp only [Act.put, List.setIfInBounds_toArray, List.set_cons_zero, List.set_cons_succ]
        refine wpAnyH_ready (rs := [9]) (by kernel_rfl) (by simp) ?_
        refine AllReadyH.cons rfl (fun K hK => ?_) AllReadyH.nil
        go_simp
        refine hK.out _ _ trivial (fun hHeld => ?_)
        clear hK K
        try simp only [Act.put, List.setIfInBounds_toArray, List.set_cons_zero, List.set_cons_succ]
        refine wpAnyH_done (by kernel_rfl) ?_ _
        go_wp2_with fail
        go_roundw
        case rel => exact ⟨c2, rfl, hide ⟨k, hnew.out⟩⟩
        case measure =>
          rw [hhcH.out]
          exact Nat.lt_succ_of_le ((lst_spec ⟨k, hnew.out⟩).2 k hnew.out)

end Go.Proofs.Qxb6001038a
