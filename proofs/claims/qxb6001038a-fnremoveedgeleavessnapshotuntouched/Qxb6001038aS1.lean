import Derived.Test.Qxb6001038aN1
import Derived.Test.Qxb6001038aInc
import Derived.Deep.DeepCutAuto
import Derived.Deep.RegionWith
import Derived.Deep.Light
namespace Go.Proofs.Qxb6001038a
open Go.RowKit
set_option linter.unusedVariables false
attribute [local go_sem ↓] Go.wp_at_zero Go.wp_at_succ

/-- What a node's block and rows hold, laid out for a walk. -/
structure View (base : Nat) (w : World) (n : Nat) (r : Nd) (ph : Nat → Value × Value) (g cap gc capc : Nat) : Prop where
  c0 : w.cell? ⟨n, 0, none⟩ = some (.slice (some ⟨g, 0, none⟩) r.es.length cap)
  c1 : w.cell? ⟨n, 1, none⟩ = some (.slice (some ⟨gc, 0, none⟩) r.cs.length capc)
  c2 : w.cell? ⟨n, 2, none⟩ = some (.pointer (some ⟨r.own, 0, none⟩))
  pe : (ph n).1 = .slice (some ⟨g, 0, none⟩) r.es.length cap
  pc : (ph n).2 = .slice (some ⟨gc, 0, none⟩) r.cs.length capc
  le : r.es.length ≤ cap
  lm : cap ≤ 9223372036854775807
  lc : r.cs.length ≤ capc
  lcm : capc ≤ 9223372036854775807
  ge : g < w.heap.size
  gec : gc < w.heap.size

theorem RepP.view {base : Nat} {w : World} {σ : Nat → Option Nd} {ph : Nat → Value × Value} {n : Nat} {r : Nd} (h : RepP base w σ ph) (hr : σ n = some r) (he : 0 < r.es.length) (hc : 0 < r.cs.length) : ∃ g cap gc capc, View base w n r ph g cap gc capc := by
  obtain ⟨g, cap, h1, h2, h3, h4⟩ := ownsRow_pos (h.nd n r hr).ents he
  obtain ⟨gc, capc, k1, k2, k3, k4⟩ := ownsRow_pos (h.nd n r hr).kids hc
  exact ⟨g, cap, gc, capc, by rw [h.c0 hr, h1], by rw [h.c1 hr, k1], h.c2 hr, h1, k1, h2, h3, k2, k3, h4, k4⟩

theorem kid_cell {base : Nat} {w : World} {σ : Nat → Option Nd} {ph : Nat → Value × Value} {n : Nat} {r : Nd} (h : RepP base w σ ph) (hr : σ n = some r) {gc k capc : Nat} (hp : (ph n).2 = .slice (some ⟨gc, 0, none⟩) k capc) (i : Nat) (hi : i < r.cs.length) :
    w.cell? ⟨gc, i, none⟩ = some (.pointer (some ⟨r.cs.getD i 0, 0, none⟩)) := by
  have := (h.nd n r hr).kids.cells (g := gc) (by rw [hp]; rfl) i _ (encC_get r.cs i hi)
  rwa [Addr.add_lit, Nat.zero_add] at this
theorem ent_cell {base : Nat} {w : World} {σ : Nat → Option Nd} {ph : Nat → Value × Value} {n : Nat} {r : Nd} (h : RepP base w σ ph) (hr : σ n = some r) {g k cap : Nat} (hp : (ph n).1 = .slice (some ⟨g, 0, none⟩) k cap) (i : Nat) (hi : i < r.es.length) :
    w.cell? ⟨g, i * 4, none⟩ = some (.string (p6 (r.es.getD i 0))) ∧ w.cell? ⟨g, i * 4 + 1, none⟩ = some (.slice none 0 0) ∧ w.cell? ⟨g, i * 4 + 2, none⟩ = some (.int .u64 (r.es.getD i 0)) ∧ w.cell? ⟨g, i * 4 + 3, none⟩ = some (.int .u64 0) := by
  have key : ∀ j u, j < 4 → (enE (r.es.getD i 0))[j]? = some u → w.cell? ⟨g, i * 4 + j, none⟩ = some u := fun j u hj hu => by
    have := (h.nd n r hr).ents.cells (g := g) (by rw [hp]; rfl) (i * 4 + j) u (by rw [encE_get r.es i hi j hj]; exact hu)
    rwa [Addr.add_lit, Nat.zero_add] at this
  exact ⟨key 0 _ (by omega) rfl, key 1 _ (by omega) rfl, key 2 _ (by omega) rfl, key 3 _ (by omega) rfl⟩

theorem insC' (v : Value) (n i vb base : Nat) (ii : Int) (xs vs : List Value) (w : World) (hii : ii = i) (hown : w.ownsRow base 29 1 v n xs) (hv : w.heap[vb]? = some (.cells vs.toArray 29 (0, 0))) (hvs : vs.length = 1)
    (hvb : v.ownBlock ≠ some vb) (hi : i ≤ n) (hn : n < 1000000) (h1 : ∀ u ∈ xs, u.oneCell' = true) (h1v : ∀ u ∈ vs, u.oneCell' = true) (hbase : base ≤ w.heap.size) :
    Calls Try.prog 44 #[v, .int .i64 ii, .slice (some ⟨vb, 0, none⟩) 1 1] w fun e w' =>
      ∃ g cap, e = .returned (.slice (some ⟨g, 0, none⟩) (n + 1) cap) ∧ w'.ownsRow base 29 1 (.slice (some ⟨g, 0, none⟩) (n + 1) cap) (n + 1) (xs.take i ++ (vs ++ xs.drop i)) ∧
        w.grownBy w' v.ownBlock ∧ (v.ownBlock = some g ∨ g = w.heap.size) := by
  subst hii
  exact insC v n i vb base xs vs w hown hv hvs hvb hi hn h1 h1v hbase

/-- A row cut to its first k elements, what stood behind them written over. -/
theorem own_cut {w : World} {base : Nat} {e : TypeId} {size g n cap : Nat} {xs : List Value} (hown : w.ownsRow base e size (.slice (some ⟨g, 0, none⟩) n cap) n xs) :
    ∃ cur, w.heap[g]? = some (.cells cur e (0, 0)) ∧ cur.size = cap * size ∧ n ≤ cap ∧ ∀ k Z, k ≤ n → Z.length = (n - k) * size → (w.setRow g (splice cur.toList (k * size) Z).toArray).ownsRow base e size (.slice (some ⟨g, 0, none⟩) k cap) k (xs.take (k * size)) := by
  rcases hown.2 with ⟨h, _⟩ | ⟨g', cap', cur, he, hb, hg, hnc, hcm, hcs, htake⟩
  · cases h
  · simp only [Value.slice.injEq, Option.some.injEq, Addr.mk.injEq, and_true, true_and] at he
    obtain ⟨rfl, rfl⟩ := he
    refine ⟨cur, hg, hcs, hnc, fun k Z hk hZ => ?_⟩
    have h1 : k * size ≤ n * size := Nat.mul_le_mul_right _ hk
    have h2 : n * size ≤ cap * size := Nat.mul_le_mul_right _ hnc
    have h3 : (n - k) * size = n * size - k * size := Nat.sub_mul _ _ _
    refine ⟨by rw [List.length_take, hown.1]; omega, .inr ⟨g, cap, _, rfl, hb, setRow_heap w g cur _ e _ hg, by omega, hcm, ?_, ?_⟩⟩
    · simp only [List.size_toArray]
      rw [length_splice _ _ _ (by have := Array.length_toList (xs := cur); omega), Array.length_toList, hcs]
    · show (splice cur.toList (k * size) Z).take (k * size) = _
      unfold splice
      rw [List.take_append_of_le_length (by rw [List.length_take, Array.length_toList]; omega), List.take_take, Nat.min_self, ← htake, List.take_take, Nat.min_eq_left h1]

theorem mut_setE {base : Nat} {W w1 : World} {σ : Nat → Option Nd} {ph : Nat → Value × Value} {n : Nat} {r : Nd} (hp : RepP base W σ ph) (hr : σ n = some r) (hg : W.grownBy w1 (ph n).1.ownBlock) (hb : base ≤ W.heap.size) (v : Value) : Mut base W (w1.setCell ⟨n, 0, none⟩ v) := by
  have hn := hp.nd n r hr
  refine (Mut.grown hg hb (fun k hk => ?_)).trans (Mut.setCell _ hn.lo (c := _) ((hp.offE hr hg).1.trans hn.node) (.inl rfl))
  obtain ⟨h1, cc, h2⟩ := ownsRow_tag hn.ents hk
  exact ⟨h1, cc, 75, _, h2, .inr (.inl rfl)⟩
theorem mut_setC {base : Nat} {W w1 : World} {σ : Nat → Option Nd} {ph : Nat → Value × Value} {n : Nat} {r : Nd} (hp : RepP base W σ ph) (hr : σ n = some r) (hg : W.grownBy w1 (ph n).2.ownBlock) (hb : base ≤ W.heap.size) (v : Value) : Mut base W (w1.setCell ⟨n, 1, none⟩ v) := by
  have hn := hp.nd n r hr
  refine (Mut.grown hg hb (fun k hk => ?_)).trans (Mut.setCell _ hn.lo (c := _) ((hp.offC hr hg).1.trans hn.node) (.inl rfl))
  obtain ⟨h1, cc, h2⟩ := ownsRow_tag hn.kids hk
  exact ⟨h1, cc, 29, _, h2, .inr (.inr rfl)⟩

set_option maxHeartbeats 1000000 in
set_option maxRecDepth 100000 in
theorem split_inner (base n i c : Nat) (r s : Nd) (σ : Nat → Option Nd) (w : World) (h : Rep base w σ) (hr : σ n = some r) (hs : σ c = some s) (hcn : c ≠ n) (hi : i < r.cs.length) (hci : r.cs.getD i 0 = c)
    (hse : s.es.length = 31) (hsc : s.cs.length = 32) (hre : r.es.length < 100) (hrc : r.cs.length < 100) (hie : i ≤ r.es.length) (hbase : base ≤ w.heap.size) :
    Calls Try.prog 31 #[.pointer (some ⟨n, 0, none⟩), .int .i64 i] w fun e w' => e = .returned (.tuple #[]) ∧ Mut base w w' ∧
      ∃ m, w.heap.size ≤ m ∧ Rep base w' (upd (upd (upd σ m ⟨s.es.drop 16, s.cs.drop 16, r.own⟩) c { s with es := s.es.take 15, cs := s.cs.take 16 }) n { r with es := r.es.take i ++ ([s.es.getD 15 0] ++ r.es.drop i), cs := r.cs.take (i + 1) ++ ([m] ++ r.cs.drop (i + 1)) }) := by
  obtain ⟨ph, hp⟩ := h
  obtain ⟨gc, capc, hvc, hlc, hlm, hgcl⟩ := ownsRow_pos (hp.nd n r hr).kids (by omega)
  obtain ⟨gs, caps, gsc, capsc, vs⟩ := hp.view hs (by omega) (by omega)
  have k0 := kid_cell hp hr hvc i hi
  rw [hci] at k0
  have c1 := hp.c1 hr; have c2 := hp.c2 hr; have d0 := vs.c0; have d1 := vs.c1
  rw [hvc] at c1
  rw [hse] at d0
  rw [hsc] at d1
  have l1 := vs.le; have l2 := vs.lm
  rw [hse] at l1
  have l3 : ¬ (caps = 16) := by omega
  have hx : ∀ j u, (encE (s.es.drop 16))[j]? = some u → w.drew.cell? ((⟨gs, 64, none⟩ : Addr).add j) = some u := fun j u hj => by
    rw [← encE_drop, List.getElem?_drop] at hj
    have := (hp.nd c s hs).ents.cells (g := gs) (by rw [vs.pe]; rfl) _ u hj
    rw [Addr.add_lit] at this ⊢
    rw [Nat.zero_add] at this
    exact this
  have hXH := hide hx; have hPH := hide hp; have hP := hide hp
  have hSH := hide vs
  have hl : Hid ((encE (s.es.drop 16)).length = 15 * 4) := by unfold Hid; rw [encE_len, List.length_drop, hse]
  have hno := (hp.nd n r hr).ownr
  have hNOH := hide hno
  have hciH := hide hci
  clear hx hp vs hno hci hvc
  go_enter Try.func31, Try.ntmps31
  go_upto_region 1 with fail
  go_cut [5] (fun v w' => ∃ m, v = .pointer (some ⟨m, 0, none⟩) ∧ w.heap.size ≤ m ∧ Rep base w' (upd σ m ⟨s.es.drop 16, [], r.own⟩) ∧ Mut base w w')
  case first =>
    go_region_held3 (fun w' => w'.cell? ⟨c, 0, none⟩ = some (.slice (some ⟨gs, 0, none⟩) 31 caps) ∧ w'.cell? ⟨n, 2, none⟩ = some (.pointer (some ⟨r.own, 0, none⟩)))
      (first | go_keep | exact ⟨hgr.cell d0 (by simp), hgr.cell c2 (by simp)⟩)
      (first
        | (go_at_call 40; refine (cloneE ⟨gs, 64, none⟩ 15 _ base (encE (s.es.drop 16)) _ hl.out hXH.out (encE_cell1 _) (by omega) (by omega) hbase).mono ?_; rintro e w1 ⟨g1, cap1, rfl, hown1, hgr, hge, hlt⟩))
    go_wp2_with fail
    go_meet
    case rel =>
      have hgr' : w.grownBy w1 none := grown_trans (grown_drew (grown_refl w none)) hgr
      refine ⟨w1.heap.size, rfl, hgr'.size, ⟨_, RepP.new hPH.out hgr' ⟨s.es.drop 16, [], r.own⟩ _ _ ?_ (World.ownsRow_nil _ _ _ _) (fun b hb => ?_) (fun b hb => ?_) (fun _ => rfl) hbase hNOH.out⟩, ?_⟩
      · rw [show (s.es.drop 16).length = 15 by rw [List.length_drop, hse]]; exact hown1
      · simp only [Value.ownBlock, Option.some.injEq] at hb; rw [← hb]; exact hge
      · simp [Value.ownBlock] at hb
      · exact (Mut.grown hgr' hbase (fun k hk => by cases hk)).trans (Mut.alloc _ _ (Nat.le_trans hbase hgr'.size))
  case rest =>
    obtain ⟨m, rfl, hm, hR1, hM1⟩ := hcut
    clear k0 c1 c2 d0 d1 l1 l2 l3 hXH hPH hSH hl hNOH
    obtain ⟨ph1, hp1⟩ := hR1
    have hmc : c ≠ m := fun e => by have := (Rep.lt ⟨ph, hP.out⟩ hs).2; omega
    have hmn : n ≠ m := fun e => by have := (Rep.lt ⟨ph, hP.out⟩ hr).2; omega
    have hs1 : upd σ m ⟨s.es.drop 16, [], r.own⟩ c = some s := by rw [upd_other _ _ _ hmc]; exact hs
    have hm1 : upd σ m ⟨s.es.drop 16, [], r.own⟩ m = some ⟨s.es.drop 16, [], r.own⟩ := upd_same _ _ _
    obtain ⟨gs, caps, gsc, capsc, vs⟩ := hp1.view hs1 (by omega) (by omega)
    have d1 := vs.c1; have l1 := vs.lc; have l2 := vs.lcm
    rw [hsc] at d1 l1
    have l3 : ¬ (capsc = 16) := by omega
    have e1 : wc.cell? ⟨m, 1, none⟩ = some (.slice none 0 0) := by rw [hp1.c1 hm1, (hp1.nd m _ hm1).leaf rfl]
    have f1 := hp1.fz hm1 1
    have hx : ∀ j u, (encC (s.cs.drop 16))[j]? = some u → wc.cell? ((⟨gsc, 16, none⟩ : Addr).add j) = some u := fun j u hj => by
      rw [← encC_drop, List.getElem?_drop] at hj
      have := (hp1.nd c s hs1).kids.cells (g := gsc) (by rw [vs.pc]; rfl) _ u hj
      rw [Addr.add_lit] at this ⊢
      rw [Nat.zero_add] at this
      exact this
    have hXH := hide hx; have hPH := hide hp1; have hSH := hide vs; have hsH := hide hs1; have hmH := hide hm1
    have hl : Hid ((encC (s.cs.drop 16)).length = 16 * 1) := by unfold Hid; rw [encC_len, List.length_drop, hsc]
    have hb1 : base ≤ wc.heap.size := Nat.le_trans hbase hM1.size
    have hl32 : (((32 : Nat) : Int) == 0) = false := by decide
    clear hx hp1 vs hs1 hm1
    go_upto_region 3 with (first | (go_at_call 41; refine (leaf_any c _ 32 _ _ d1).mono ?_; rintro e wc ⟨rfl, rfl⟩))
    go_cut [6] (fun v w' => Rep base w' (upd σ m ⟨s.es.drop 16, s.cs.drop 16, r.own⟩) ∧ Mut base w w')
    case first =>
      go_wp2_with (first | (go_at_call 42; refine (cloneC ⟨gsc, 16, none⟩ 16 _ base (encC (s.cs.drop 16)) _ hl.out hXH.out (encC_cell1 _) (by omega) (by omega) hb1).mono ?_; rintro e w2 ⟨g2, cap2, rfl, hown2, hgr2, hge2, hlt2⟩; have e2 := hgr2.cell e1 (by simp); have f2 := (hgr2.frozen_far ⟨m, 1, none⟩ (World.block_lt_of_cell? _ _ e1) (by simp)).trans f1))
      go_meet
      case rel =>
        have hcsl : (s.cs.drop 16).length = 16 := by rw [List.length_drop, hsc]
        have hm1 := hmH.out
        have hn := hPH.out.nd m _ hm1
        have hpc : (ph1 m).2 = .slice none 0 0 := hn.leaf rfl
        have hset := RepP.setC hPH.out hm1 (grown_weak _ hgr2) (.slice (some ⟨g2, 0, none⟩) 16 cap2) (s.cs.drop 16) (by rw [hcsl]; exact hown2) (fun b hb => .inr (by simp only [Value.ownBlock, Option.some.injEq] at hb; rw [← hb]; exact hge2)) (fun e => by rw [e] at hcsl; cases hcsl)
        have he : upd (upd σ m ⟨s.es.drop 16, [], r.own⟩) m ⟨s.es.drop 16, s.cs.drop 16, r.own⟩ = upd σ m ⟨s.es.drop 16, s.cs.drop 16, r.own⟩ := by
          funext x; unfold upd; split <;> rfl
        rw [← he]
        refine ⟨⟨_, hset⟩, hM1.trans ((Mut.grown hgr2 hb1 (fun k hk => by cases hk)).trans ?_)⟩
        exact Mut.setCell _ (by show base ≤ m; omega) (c := _) ((hgr2.block m (lt_of_heap hn.node) (by simp)).trans hn.node) (.inl rfl)
    case rest =>
      obtain ⟨hR2, hM2⟩ := hcut
      clear hXH hPH hSH hsH hmH hl hb1 d1 e1 f1 hM1 l1 l2 l3 hl32
      obtain ⟨ph2, hp2⟩ := hR2
      have hs2 : upd σ m ⟨s.es.drop 16, s.cs.drop 16, r.own⟩ c = some s := by rw [upd_other _ _ _ hmc]; exact hs
      obtain ⟨gs, caps, gsc, capsc, vs⟩ := hp2.view hs2 (by omega) (by omega)
      have d1 := vs.c1; have l1 := vs.lc; have l2 := vs.lcm
      rw [hsc] at d1 l1
      have l3 : ¬ (capsc = 16) := by omega
      have f1 := hp2.fz hs2 1
      obtain ⟨cur, hg, hcu, hncap, hcut⟩ := own_cut (by have := (hp2.nd c s hs2).kids; rw [vs.pc] at this; exact this)
      obtain ⟨i0, hi0, hz0, hz1, hz2⟩ := info_parts infoCh
      obtain ⟨Z, hZ⟩ : ∃ Z, Z = (Builtin.zeroCells (Value.pointer none).cells 16).toList := ⟨_, rfl⟩
      have hZl : Z.length = 16 * 1 := by rw [hZ, Array.length_toList, size_zeroCells]; rfl
      have hcl : ∀ ty c, (Builtin.clear_ #[62] ty #[.slice (some ⟨gsc, 16, none⟩) 16 c]).run Try.prog wc = .ok (.tuple #[]) (wc.setRow gsc (splice cur.toList 16 Z).toArray) := fun ty c => by
        have h := run_clearK (P := Try.prog) wc 62 ty 29 i0 (.pointer none) gsc 16 16 c cur 29 Try.underlying62 hi0 hz0 (by omega) hg (by show 16 + 16 * 1 ≤ _; rw [hcu]; omega) (by decide)
        rw [h, hZ]
      have hown4 := hcut 16 Z (by omega) (by rw [hsc, hZl])
      obtain ⟨W4, hW4⟩ : ∃ W4, W4 = wc.setRow gsc (splice cur.toList 16 Z).toArray := ⟨_, rfl⟩
      rw [show (16 : Nat) * 1 = 16 from rfl, ← hW4] at hown4
      rw [← hW4] at hcl
      have hgr4 : wc.grownBy W4 (some gsc) := by rw [hW4]; exact ⟨rfl, rfl, rfl, by rw [size_setRow]; exact Nat.le_refl _, fun k _ hk => setRow_other wc gsc k _ (fun e => hk (by rw [e]))⟩
      have hcg : c ≠ gsc := fun e => by
        have h1 := (hp2.nd c s hs2).node
        rw [e, hg] at h1
        cases h1
      have d1' := hgr4.cell d1 (by simp [hcg])
      have f1' : W4.frozen? ⟨c, 1, none⟩ = false := (hgr4.frozen_far ⟨c, 1, none⟩ (lt_of_heap (hp2.nd c s hs2).node) (by simp [hcg])).trans f1
      have hgrH := hide hgr4; have hownH := hide hown4; have hPH := hide hp2; have hSH := hide vs; have hsH := hide hs2
      clear hg hcu hcut hZ hZl hW4 hgr4 hown4 hp2 vs hs2
      go_upto_region 6 with fail
      have hset := RepP.setC hPH.out hsH.out (by rw [hSH.out.pc]; exact hgrH.out) (.slice (some ⟨gsc, 0, none⟩) 16 capsc) (s.cs.take 16)
        (by rw [show (s.cs.take 16).length = 16 by rw [List.length_take, hsc]; rfl, ← encC_take]; exact hownH.out) (fun b hb => .inl (by rw [hSH.out.pc]; exact hb))
        (fun e => by have : (s.cs.take 16).length = 16 := by rw [List.length_take, hsc]; rfl
                     rw [e] at this; cases this)
      have hM3 : Mut base w (W4.setCell ⟨c, 1, none⟩ (.slice (some ⟨gsc, 0, none⟩) 16 capsc)) := by
        have hn := hPH.out.nd c s hsH.out
        refine hM2.trans ((Mut.grown hgrH.out (Nat.le_trans hbase hM2.size) (fun k hk => ?_)).trans (Mut.setCell _ hn.lo (c := _) ((hgrH.out.block c (lt_of_heap hn.node) (by simp [hcg])).trans hn.node) (.inl rfl)))
        cases hk
        obtain ⟨h1, cc, h2⟩ := ownsRow_tag hn.kids (b := gsc) (by rw [hSH.out.pc]; rfl)
        exact ⟨h1, cc, 29, _, h2, .inr (.inr rfl)⟩
      have hR3 : Rep base (W4.setCell ⟨c, 1, none⟩ (.slice (some ⟨gsc, 0, none⟩) 16 capsc)) (upd (upd σ m ⟨s.es.drop 16, s.cs.drop 16, r.own⟩) c { s with cs := s.cs.take 16 }) := ⟨_, hset⟩
      clear hset hPH hsH hSH hgrH hownH d1 d1' f1 f1' hcl hcg hM2 l1 l2 l3 hncap hi0 hz0 hz1 hz2
      generalize W4.setCell ⟨c, 1, none⟩ (.slice (some ⟨gsc, 0, none⟩) 16 capsc) = W at hR3 hM3 ⊢
      obtain ⟨σ3, hσ3⟩ : ∃ σ3, σ3 = upd (upd σ m ⟨s.es.drop 16, s.cs.drop 16, r.own⟩) c { s with cs := s.cs.take 16 } := ⟨_, rfl⟩
      rw [← hσ3] at hR3
      have hσc : σ3 c = some { s with cs := s.cs.take 16 } := by rw [hσ3, upd_same]
      have hσn : σ3 n = some r := by rw [hσ3, upd_other _ _ _ (Ne.symm hcn), upd_other _ _ _ hmn]; exact hr
      have hσH := hide hσ3
      clear hσ3
      -- TAIL
      obtain ⟨ph3, hp3⟩ := hR3
      obtain ⟨g5, cap5, hve5, hl5, hm5, hg5⟩ := ownsRow_pos (hp3.nd c _ hσc).ents (by show 0 < s.es.length; omega)
      have d0 := hp3.c0 hσc
      rw [hve5] at d0
      simp only [hse] at d0 hl5
      obtain ⟨k0, k1, k2, k3⟩ := ent_cell hp3 hσc hve5 15 (by show 15 < s.es.length; omega)
      simp only [] at k0 k1 k2 k3
      obtain ⟨kk, hkk⟩ : ∃ kk, kk = s.es.getD 15 0 := ⟨_, rfl⟩
      rw [← hkk] at k0 k2
      have hkH := hide hkk
      have hPH := hide hp3
      clear hp3 hkk
      have hveH := hide hve5
      clear hve5
      go_upto_region 7 with fail
      have hbW : base ≤ W.heap.size := Nat.le_trans hbase hM3.size
      obtain ⟨W', hW'⟩ : ∃ W', W' = W.alloc (.cells #[.string (p6 kk), .slice none 0 0, .int .u64 kk, .int .u64 0] 75) := ⟨_, rfl⟩
      have hp4 : RepP base W' σ3 ph3 := by rw [hW']; exact hPH.out.keep fun b c t fz hc _ => by rw [Below.heap_alloc W _ b (lt_of_heap hc)]; exact hc
      have hM4 : Mut base w W' := by rw [hW']; exact hM3.trans (Mut.alloc _ _ hbW)
      have hbox : W'.heap[W.heap.size]? = some (.cells (enE kk).toArray 75 (0, 0)) := by rw [hW']; exact heap_alloc_new W _
      rw [← hW']
      have hmb : g5 ≠ W.heap.size := by omega
      have hmbn : ∀ b, (ph3 n).1.ownBlock = some b → b ≠ W.heap.size := fun b hb => by
        obtain ⟨_, cc, hc⟩ := ownsRow_tag (hPH.out.nd n r hσn).ents hb
        have := lt_of_heap hc
        omega
      generalize W.heap.size = mb at hmb hmbn hbox ⊢
      clear hW' hPH hM3 k0 k1 k2 k3 d0 hg5 hbW
      have d0 := hp4.c0 hσc
      rw [hveH.out] at d0
      simp only [hse] at d0
      have f0 := hp4.fz hσc 0
      have l5 : ¬ (cap5 = 15) := by omega
      obtain ⟨cur2, hg, hcu, hncap, hcut⟩ := own_cut (by have := (hp4.nd c _ hσc).ents; rw [hveH.out] at this; exact this)
      obtain ⟨i1, hi1, hy0, hy1, hy2⟩ := info_parts infoEn
      obtain ⟨Y, hY⟩ : ∃ Y, Y = (Builtin.zeroCells zEn.cells 16).toList := ⟨_, rfl⟩
      have hYl : Y.length = 16 * 4 := by rw [hY, Array.length_toList, size_zeroCells]; rfl
      have hcl : ∀ ty c, (Builtin.clear_ #[61] ty #[.slice (some ⟨g5, 60, none⟩) 16 c]).run Try.prog W' = .ok (.tuple #[]) (W'.setRow g5 (splice cur2.toList 60 Y).toArray) := fun ty c => by
        have h := run_clearK (P := Try.prog) W' 61 ty 75 i1 zEn g5 60 16 c cur2 75 Try.underlying61 hi1 hy0 (by omega) hg (by show 60 + 16 * 4 ≤ _; rw [hcu]; omega) (by decide)
        rw [h, hY]
      have hown6 := hcut 15 Y (by show 15 ≤ s.es.length; omega) (by show _ = (s.es.length - 15) * 4; rw [hse, hYl])
      obtain ⟨W6, hW6⟩ : ∃ W6, W6 = W'.setRow g5 (splice cur2.toList 60 Y).toArray := ⟨_, rfl⟩
      rw [show (15 : Nat) * 4 = 60 from rfl, ← hW6] at hown6
      rw [← hW6] at hcl
      have hgr6 : W'.grownBy W6 (some g5) := by rw [hW6]; exact ⟨rfl, rfl, rfl, by rw [size_setRow]; exact Nat.le_refl _, fun k _ hk => setRow_other W' g5 k _ (fun e => hk (by rw [e]))⟩
      have hcg : c ≠ g5 := fun e => by
        have h1 := (hp4.nd c _ hσc).node
        rw [e, hg] at h1
        cases h1
      have d0' := hgr6.cell d0 (by simp [hcg])
      have f0' : W6.frozen? ⟨c, 0, none⟩ = false := (hgr6.frozen_far ⟨c, 0, none⟩ (lt_of_heap (hp4.nd c _ hσc).node) (by simp [hcg])).trans f0
      have hbox6 : W6.heap[mb]? = some (.cells (enE kk).toArray 75 (0, 0)) := (hgr6.block mb (lt_of_heap hbox) (by simp [Ne.symm hmb])).trans hbox
      have hgrH := hide hgr6; have hownH := hide hown6; have hPH := hide hp4; have hbH := hide hbox6
      clear hg hcu hcut hY hYl hW6 hgr6 hown6 hp4 hbox hbox6
      go_upto_region 9 with fail
      have hset := RepP.setE hPH.out hσc (by rw [hveH.out]; exact hgrH.out) (.slice (some ⟨g5, 0, none⟩) 15 cap5) (s.es.take 15)
        (by rw [show (s.es.take 15).length = 15 by rw [List.length_take, hse]; rfl, ← encE_take]; exact hownH.out) (fun b hb => .inl (by rw [hveH.out]; exact hb))
      have hM5 : Mut base w (W6.setCell ⟨c, 0, none⟩ (.slice (some ⟨g5, 0, none⟩) 15 cap5)) := by
        have hn := hPH.out.nd c _ hσc
        refine hM4.trans ((Mut.grown hgrH.out (Nat.le_trans hbase hM4.size) (fun k hk => ?_)).trans (Mut.setCell _ hn.lo (c := _) ((hgrH.out.block c (lt_of_heap hn.node) (by simp [hcg])).trans hn.node) (.inl rfl)))
        cases hk
        obtain ⟨h1, cc, h2⟩ := ownsRow_tag hn.ents (b := g5) (by rw [hveH.out]; rfl)
        exact ⟨h1, cc, 75, _, h2, .inr (.inl rfl)⟩
      obtain ⟨ph5, hph5⟩ : ∃ ph5 : Nat → Value × Value, ph5 = (fun m => if m = c then (.slice (some ⟨g5, 0, none⟩) 15 cap5, (ph3 c).2) else ph3 m) := ⟨_, rfl⟩
      have hR5 : RepP base (W6.setCell ⟨c, 0, none⟩ (.slice (some ⟨g5, 0, none⟩) 15 cap5)) (upd σ3 c ⟨s.es.take 15, s.cs.take 16, s.own⟩) ph5 := by rw [hph5]; exact hset
      have hmb5 : ∀ b, (ph5 n).1.ownBlock = some b → b ≠ mb := by rw [hph5]; simp only [Ne.symm hcn, if_false]; exact hmbn
      have hmbc : mb ≠ c := fun e => by
        have h1 := hbH.out
        have h2 := (hPH.out.nd c _ hσc).node
        rw [e, hgrH.out.block c (lt_of_heap h2) (by simp [hcg]), h2] at h1
        simp at h1
      have hbox7 : (W6.setCell ⟨c, 0, none⟩ (.slice (some ⟨g5, 0, none⟩) 15 cap5)).heap[mb]? = some (.cells (enE kk).toArray 75 (0, 0)) := (setNode_other hmbc).trans hbH.out
      clear hset hPH hveH hgrH hownH d0 d0' f0 f0' hcl hcg hM4 hbH hmb hmbn hph5 hi1 hy0 hy1 hy2 hncap hmbc
      generalize W6.setCell ⟨c, 0, none⟩ (.slice (some ⟨g5, 0, none⟩) 15 cap5) = W7 at hR5 hM5 hbox7 ⊢
      obtain ⟨σ5, hσ5⟩ : ∃ σ5, σ5 = upd σ3 c ⟨s.es.take 15, s.cs.take 16, s.own⟩ := ⟨_, rfl⟩
      rw [← hσ5] at hR5
      have hσn5 : σ5 n = some r := by rw [hσ5, upd_other _ _ _ (Ne.symm hcn)]; exact hσn
      have hσH5 := hide hσ5
      clear hσ5
      have hp5 := hR5
      clear hR5
      obtain ⟨pe, ce, hpe, hpel, hpem⟩ := ownsRow_shape (hp5.nd n r hσn5).ents
      have c0 := hp5.c0 hσn5
      rw [hpe] at c0
      have f0 := hp5.fz hσn5 0
      have q0 : W7.cell? ⟨mb, 0, none⟩ = some (.string (p6 kk)) := by rw [cell_of_row W7 mb 0 _ 75 _ hbox7]; rfl
      have q1 : W7.cell? ⟨mb, 1, none⟩ = some (.slice none 0 0) := by rw [cell_of_row W7 mb 1 _ 75 _ hbox7]; rfl
      have q2 : W7.cell? ⟨mb, 2, none⟩ = some (.int .u64 kk) := by rw [cell_of_row W7 mb 2 _ 75 _ hbox7]; rfl
      have q3 : W7.cell? ⟨mb, 3, none⟩ = some (.int .u64 0) := by rw [cell_of_row W7 mb 3 _ 75 _ hbox7]; rfl
      have nw0 : ∀ o, (W7.alloc o).cell? ⟨n, 0, none⟩ = some (.slice pe r.es.length ce) := fun o => (World.cell?_of_block (a := ⟨n, 0, none⟩) (Below.heap_alloc W7 o n (lt_of_heap (hp5.nd n r hσn5).node))).trans c0
      have hb7 : base ≤ W7.heap.size := Nat.le_trans hbase hM5.size
      obtain ⟨X, hX⟩ : ∃ X, X = Obj.cells #[.string (p6 kk), .slice none 0 0, .int .u64 kk, .int .u64 0] 75 := ⟨_, rfl⟩
      have o1 : (W7.alloc X).drew.ownsRow base 75 4 (.slice pe r.es.length ce) r.es.length (encE r.es) := by
        have := (hp5.nd n r hσn5).ents
        rw [hpe] at this
        exact (this.alloc X).drew
      have o2 : (W7.alloc X).drew.heap[W7.heap.size]? = some (.cells (enE kk).toArray 75 (0, 0)) := by rw [hX]; exact heap_alloc_new W7 _
      have o3 : (Value.slice pe r.es.length ce).ownBlock ≠ some W7.heap.size := fun e => by
        have := (hp5.nd n r hσn5).ents
        rw [hpe] at this
        obtain ⟨_, cc, hc⟩ := ownsRow_tag this e
        have := lt_of_heap hc
        omega
      have o4 : ∀ k, k < W7.heap.size → some k ≠ (Value.slice pe r.es.length ce).ownBlock → ∀ w8, (W7.alloc X).drew.grownBy w8 (Value.slice pe r.es.length ce).ownBlock → w8.heap[k]? = W7.heap[k]? := fun k hk hne w8 hg8 =>
        (hg8.block k (by simp; omega) hne).trans (Below.heap_alloc W7 X k hk)
      have o5 : some n ≠ (Value.slice pe r.es.length ce).ownBlock := fun e => by
        have := (hp5.nd n r hσn5).ents
        rw [hpe] at this
        obtain ⟨_, cc, hc⟩ := ownsRow_tag this e.symm
        rw [(hp5.nd n r hσn5).node] at hc
        cases hc
      have o6 : some mb ≠ (Value.slice pe r.es.length ce).ownBlock := fun e => hmb5 mb (by rw [hpe]; exact e.symm) rfl
      have o7 : ∀ w8, (W7.alloc X).drew.grownBy w8 (Value.slice pe r.es.length ce).ownBlock → w8.frozen? ⟨n, 0, none⟩ = false ∧ (w8.cell? ⟨n, 0, none⟩ = some (.slice pe r.es.length ce) ∧ w8.cell? ⟨mb, 0, none⟩ = some (.string (p6 kk)) ∧ w8.cell? ⟨mb, 1, none⟩ = some (.slice none 0 0) ∧ w8.cell? ⟨mb, 2, none⟩ = some (.int .u64 kk) ∧ w8.cell? ⟨mb, 3, none⟩ = some (.int .u64 0)) := fun w8 hg8 => by
        have hn := o4 n (lt_of_heap (hp5.nd n r hσn5).node) o5 w8 hg8
        have hm := o4 mb (lt_of_heap hbox7) o6 w8 hg8
        refine ⟨(World.frozen?_of_block (a := ⟨n, 0, none⟩) hn).trans f0, (World.cell?_of_block (a := ⟨n, 0, none⟩) hn).trans c0, (World.cell?_of_block (a := ⟨mb, 0, none⟩) hm).trans q0, (World.cell?_of_block (a := ⟨mb, 1, none⟩) hm).trans q1, (World.cell?_of_block (a := ⟨mb, 2, none⟩) hm).trans q2, (World.cell?_of_block (a := ⟨mb, 3, none⟩) hm).trans q3⟩
      rw [hX] at o1 o2 o7
      have hPH := hide hp5; have hpH := hide hpe; have hbH := hide hbox7; have o1H := hide o1; have o2H := hide o2; have o3H := hide o3; have o7H := hide o7
      clear hp5 hbox7 hpe o1 o2 o3 o4 o5 o6 o7 hmb5
      go_cut [6] (fun v w' => Rep base w' (upd σ5 n { r with es := r.es.take i ++ (kk :: r.es.drop i) }) ∧ Mut base w w')
      case first =>
        go_region_with (first
            | (go_at_call 43; refine (insE (.slice pe r.es.length ce) r.es.length i W7.heap.size base (encE r.es) (enE kk) _ o1H.out o2H.out rfl o3H.out hie (by omega) (encE_cell1 _) (by rw [← encE_one]; exact encE_cell1 _) (by simp; omega)).mono ?_; rintro e w8 ⟨g8, cap8, rfl, hown8, hgr8, hat8⟩; have f8 := (o7H.out _ hgr8).1; have q8 := (o7H.out _ hgr8).2.1))
        all_goals go_wp2_with fail
        all_goals go_meet
        all_goals
          go_light
          have hes : (r.es.take i ++ (kk :: r.es.drop i)).length = r.es.length + 1 := by simp; omega
          have hgr7 : W7.grownBy w8 (ph5 n).1.ownBlock := by
            rw [hpH.out]
            exact grown_trans (grown_drew (grown_alloc _ _)) hgr8
          have hset := RepP.setE hPH.out hσn5 hgr7 (.slice (some ⟨g8, 0, none⟩) (r.es.length + 1) cap8) (r.es.take i ++ (kk :: r.es.drop i))
            (by rw [hes, encE_append, show encE (kk :: r.es.drop i) = enE kk ++ encE (r.es.drop i) from rfl, ← encE_take, ← encE_drop]; exact hown8)
            (fun b hb => by
              simp only [Value.ownBlock, Option.some.injEq] at hb
              rw [← hb, hpH.out]
              rcases hat8 with h | h
              · exact .inl h
              · exact .inr (by rw [h]; simp))
          exact ⟨⟨_, hset⟩, hM5.trans (mut_setE hPH.out hσn5 hgr7 hb7 _)⟩
      case rest =>
        obtain ⟨hR6, hM6⟩ := hcut
        clear hPH hpH hbH o1H o2H o3H o7H c0 f0 q0 q1 q2 q3 nw0 hM5
        obtain ⟨ph6, hp6⟩ := hR6
        obtain ⟨r6, hr6⟩ : ∃ r6 : Nd, r6 = { r with es := r.es.take i ++ (kk :: r.es.drop i) } := ⟨_, rfl⟩
        rw [← hr6] at hp6
        have hσ6 : upd σ5 n r6 n = some r6 := upd_same _ _ _
        have hcs6 : r6.cs = r.cs := by rw [hr6]
        obtain ⟨gc6, capc6, hvc6, hlc6, hlm6, hgl6⟩ := ownsRow_pos (hp6.nd n r6 hσ6).kids (by rw [hcs6]; omega)
        rw [hcs6] at hvc6 hlc6
        have c1 := hp6.c1 hσ6
        rw [hvc6] at c1
        have f1 := hp6.fz hσ6 1
        have hb6 : base ≤ wc.heap.size := Nat.le_trans hbase hM6.size
        have o1 : (wc.alloc (.cells #[.pointer (some ⟨m, 0, none⟩)] 29)).ownsRow base 29 1 (.slice (some ⟨gc6, 0, none⟩) r.cs.length capc6) r.cs.length (encC r.cs) := by
          have := (hp6.nd n r6 hσ6).kids
          rw [hvc6, hcs6] at this
          exact this.alloc _
        have o2 : (wc.alloc (.cells #[.pointer (some ⟨m, 0, none⟩)] 29)).heap[wc.heap.size]? = some (.cells [.pointer (some ⟨m, 0, none⟩)].toArray 29 (0, 0)) := heap_alloc_new wc _
        have o3 : (Value.slice (some ⟨gc6, 0, none⟩) r.cs.length capc6).ownBlock ≠ some wc.heap.size := fun e => by simp only [Value.ownBlock, Option.some.injEq] at e; omega
        have o5 : n ≠ gc6 := fun e => by
          obtain ⟨_, cc, hc⟩ := ownsRow_tag (hp6.nd n r6 hσ6).kids (b := gc6) (by rw [hvc6]; rfl)
          rw [← e, (hp6.nd n r6 hσ6).node] at hc
          cases hc
        have o7 : ∀ w8, (wc.alloc (.cells #[.pointer (some ⟨m, 0, none⟩)] 29)).grownBy w8 (some gc6) → w8.frozen? ⟨n, 1, none⟩ = false ∧ w8.cell? ⟨n, 1, none⟩ = some (.slice (some ⟨gc6, 0, none⟩) r.cs.length capc6) := fun w8 hg8 => by
          have hlt := lt_of_heap (hp6.nd n r6 hσ6).node
          have hn := (hg8.block n (by simp; omega) (by simp [o5])).trans (Below.heap_alloc wc _ n hlt)
          exact ⟨(World.frozen?_of_block (a := ⟨n, 1, none⟩) hn).trans f1, (World.cell?_of_block (a := ⟨n, 1, none⟩) hn).trans c1⟩
        have hPH := hide hp6; have hpH := hide hvc6; have o1H := hide o1; have o2H := hide o2; have o3H := hide o3; have o7H := hide o7; have hcH := hide hcs6; have hrH := hide hr6; have hσ6H := hide hσ6
        clear hp6 hvc6 o1 o2 o3 o5 o7 hcs6 hr6 hσ6
        go_wp2_with (first | (go_at_call 44; refine (insC' (.slice (some ⟨gc6, 0, none⟩) r.cs.length capc6) r.cs.length (i + 1) wc.heap.size base _ (encC r.cs) [.pointer (some ⟨m, 0, none⟩)] _ (by omega) o1H.out o2H.out rfl o3H.out (by omega) (by omega) (encC_cell1 _) (by rw [← encC_one]; exact encC_cell1 _) (by simp; omega)).mono ?_; rintro e w8 ⟨g8, cap8, rfl, hown8, hgr8, hat8⟩; have f8 := (o7H.out _ hgr8).1; have q8 := (o7H.out _ hgr8).2))
        go_end0
        go_light
        have hcs : (r.cs.take (i + 1) ++ (m :: r.cs.drop (i + 1))).length = r.cs.length + 1 := by simp; omega
        have hgr7 : wc.grownBy w8 (ph6 n).2.ownBlock := by
          rw [hpH.out]
          exact grown_trans (grown_alloc _ _) hgr8
        have hset := RepP.setC hPH.out hσ6H.out hgr7 (.slice (some ⟨g8, 0, none⟩) (r.cs.length + 1) cap8) (r.cs.take (i + 1) ++ (m :: r.cs.drop (i + 1)))
          (by rw [hcs, encC_append, show encC (m :: r.cs.drop (i + 1)) = [.pointer (some ⟨m, 0, none⟩)] ++ encC (r.cs.drop (i + 1)) from rfl, ← encC_take, ← encC_drop]; exact hown8)
          (fun b hb => by
            simp only [Value.ownBlock, Option.some.injEq] at hb
            rw [← hb, hpH.out]
            rcases hat8 with h | h
            · exact .inl h
            · exact .inr (by rw [h]; simp))
          (fun e => by rw [e] at hcs; cases hcs)
        refine ⟨rfl, hM6.trans (mut_setC hPH.out hσ6H.out hgr7 hb6 _), m, hm, ?_⟩
        have hfin : upd (upd σ5 n r6) n { r6 with cs := r.cs.take (i + 1) ++ (m :: r.cs.drop (i + 1)) } = upd (upd (upd σ m ⟨s.es.drop 16, s.cs.drop 16, r.own⟩) c { s with es := s.es.take 15, cs := s.cs.take 16 }) n { r with es := r.es.take i ++ (s.es.getD 15 0 :: r.es.drop i), cs := r.cs.take (i + 1) ++ (m :: r.cs.drop (i + 1)) } := by
          rw [hrH.out, hσH5.out, hσH.out, hkH.out]
          funext x
          unfold upd
          split
          · rfl
          · split <;> rfl
        rw [← hfin]
        exact ⟨_, hset⟩

end Go.Proofs.Qxb6001038a
