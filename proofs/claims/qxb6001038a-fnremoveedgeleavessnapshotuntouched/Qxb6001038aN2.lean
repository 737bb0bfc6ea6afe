import Derived.Test.Qxb6001038aN1
import Derived.Test.Qxb6001038aS1
import Derived.Laws.OwnMore
namespace Go.Proofs.Qxb6001038a
open Go.RowKit
set_option linter.unusedVariables false
attribute [local go_sem ↓] Go.wp_at_zero Go.wp_at_succ

set_option maxHeartbeats 1000000 in
/-- A node of another owner's is copied: the leaf's case. -/
theorem writable_leaf2 (base n o : Nat) (r : Nd) (σ : Nat → Option Nd) (ph : Nat → Value × Value) (w : World) (h : RepP base w σ ph) (hr : σ n = some r) (ho : w.heap[o]? = some (.cells #[.int .u8 0] 47 (0, 0))) (hne : r.own ≠ o)
    (hes : 0 < r.es.length) (hen : r.es.length < 1000000) (hcs : r.cs = []) (hbase : base ≤ w.heap.size) :
    Calls Try.prog 37 #[.pointer (some ⟨o, 0, none⟩), .pointer (some ⟨n, 0, none⟩)] w fun e w' =>
      ∃ n' ve vc, e = .returned (.pointer (some ⟨n', 0, none⟩)) ∧ w.heap.size ≤ n' ∧ RepP base w' (upd σ n' { r with own := o }) (fun m => if m = n' then (ve, vc) else ph m) ∧ w.grownBy w' none ∧ ∀ b, ve.ownBlock = some b → w.heap.size ≤ b := by
  have hn := h.nd n r hr
  obtain ⟨i0, hi0, hz0, hz1, hz2⟩ := info_parts infoOw
  obtain ⟨g, cap, hve, hcap1, hcap2, hgl⟩ := ownsRow_pos hn.ents hes
  have hvc := hn.leaf hcs
  have hx : ∀ j u, (encE r.es)[j]? = some u → w.drew.cell? ((⟨g, 0, none⟩ : Addr).add j) = some u := hn.ents.cells (g := g) (by rw [hve]; rfl)
  have c0 := h.c0 hr
  have c1 := h.c1 hr
  have c2 := h.c2 hr
  rw [hve] at c0
  rw [hvc] at c1
  have hq := run_eql_ptr_other (P := Try.prog) w (a := ⟨r.own, 0, none⟩) (b := ⟨o, 0, none⟩) Try.underlying25 hi0 (by omega) (fun e => hne (congrArg Addr.block e)) hn.ownr ho
  have hen' := encE_len r.es
  have hXH := hide hx; have hLH := hide hen'; have hHH := hide h; have hCH := hide hcs; have hOH := hide ho; have hNH := hide hn
  clear hx hen' h hcs ho hn hve hvc
  go_enter Try.func37, Try.ntmps37
  go_wp2
  go_region_held3 (fun w' => w'.cell? ⟨n, 0, none⟩ = some (.slice (some ⟨g, 0, none⟩) r.es.length cap) ∧ w'.cell? ⟨n, 1, none⟩ = some (.slice none 0 0))
    (first | go_keep | exact ⟨hgr.cell c0 (by simp), hgr.cell c1 (by simp)⟩)
    (first
      | (go_at_call 40; refine (cloneE ⟨g, 0, none⟩ r.es.length cap base (encE r.es) _ hLH.out hXH.out (encE_cell1 _) hes hen hbase).mono ?_; rintro e w1 ⟨g1, cap1, rfl, hown1, hgr, hge, hlt⟩)
      | (go_at_call 42; refine (cloneC_nil _).mono ?_; rintro e w2 ⟨rfl, rfl⟩))
  go_wp2
  go_ret
  have hgr' : w.grownBy w2 none := grown_trans (grown_drew (grown_refl w none)) hgr
  refine ⟨w2.heap.size, _, _, rfl, hgr'.size, RepP.new hHH.out hgr' { r with own := o } _ _ hown1 ?_ (fun b hb => ?_) (fun b hb => ?_) (fun _ => rfl) hbase hOH.out, ?_, fun b hb => ?_⟩
  · rw [hCH.out]; exact World.ownsRow_nil _ _ _ _
  · simp only [Value.ownBlock, Option.some.injEq] at hb; rw [← hb]; exact hge
  · simp [Value.ownBlock] at hb
  · exact grown_trans hgr' (grown_alloc _ _)
  · simp only [Value.ownBlock, Option.some.injEq] at hb; rw [← hb]; exact hge

set_option maxHeartbeats 1000000 in
/-- A node of another owner's is copied: the inner node's case. -/
theorem writable_inner2 (base n o : Nat) (r : Nd) (σ : Nat → Option Nd) (ph : Nat → Value × Value) (w : World) (h : RepP base w σ ph) (hr : σ n = some r) (ho : w.heap[o]? = some (.cells #[.int .u8 0] 47 (0, 0))) (hne : r.own ≠ o)
    (hes : 0 < r.es.length) (hen : r.es.length < 1000000) (hcs : 0 < r.cs.length) (hcn : r.cs.length < 1000000) (hbase : base ≤ w.heap.size) :
    Calls Try.prog 37 #[.pointer (some ⟨o, 0, none⟩), .pointer (some ⟨n, 0, none⟩)] w fun e w' =>
      ∃ n' ve vc, e = .returned (.pointer (some ⟨n', 0, none⟩)) ∧ w.heap.size ≤ n' ∧ RepP base w' (upd σ n' { r with own := o }) (fun m => if m = n' then (ve, vc) else ph m) ∧ w.grownBy w' none ∧ ∀ b, ve.ownBlock = some b → w.heap.size ≤ b := by
  have hn := h.nd n r hr
  obtain ⟨i0, hi0, hz0, hz1, hz2⟩ := info_parts infoOw
  obtain ⟨g, cap, hve, hcap1, hcap2, hgl⟩ := ownsRow_pos hn.ents hes
  obtain ⟨gc, capc, hvc, hcapc1, hcapc2, hgcl⟩ := ownsRow_pos hn.kids hcs
  have hx : ∀ j u, (encE r.es)[j]? = some u → w.drew.cell? ((⟨g, 0, none⟩ : Addr).add j) = some u := hn.ents.cells (g := g) (by rw [hve]; rfl)
  have hy : ∀ j u, (encC r.cs)[j]? = some u → w.drew.cell? ((⟨gc, 0, none⟩ : Addr).add j) = some u := hn.kids.cells (g := gc) (by rw [hvc]; rfl)
  have c0 := h.c0 hr
  have c1 := h.c1 hr
  have c2 := h.c2 hr
  rw [hve] at c0
  rw [hvc] at c1
  have hq := run_eql_ptr_other (P := Try.prog) w (a := ⟨r.own, 0, none⟩) (b := ⟨o, 0, none⟩) Try.underlying25 hi0 (by omega) (fun e => hne (congrArg Addr.block e)) hn.ownr ho
  have hen' := encE_len r.es
  have hcn' := encC_len r.cs
  have hXH := hide hx; have hYH := hide hy; have hLH := hide hen'; have hMH := hide hcn'; have hHH := hide h; have hOH := hide ho; have hNH := hide hn
  clear hx hy hen' hcn' h ho hn hve hvc
  go_enter Try.func37, Try.ntmps37
  go_wp2
  go_region_held3 (fun w' => w'.cell? ⟨n, 0, none⟩ = some (.slice (some ⟨g, 0, none⟩) r.es.length cap) ∧ w'.cell? ⟨n, 1, none⟩ = some (.slice (some ⟨gc, 0, none⟩) r.cs.length capc))
    (first | go_keep | exact ⟨hgr2.cell (hgr.cell c0 (by simp)) (by simp), hgr2.cell (hgr.cell c1 (by simp)) (by simp)⟩ | exact ⟨hgr.cell c0 (by simp), hgr.cell c1 (by simp)⟩)
    (first
      | (go_at_call 40; refine (cloneE ⟨g, 0, none⟩ r.es.length cap base (encE r.es) _ hLH.out hXH.out (encE_cell1 _) hes hen hbase).mono ?_; rintro e w1 ⟨g1, cap1, rfl, hown1, hgr, hge, hlt⟩)
      | (go_at_call 42; refine (cloneC ⟨gc, 0, none⟩ r.cs.length capc base (encC r.cs) _ hMH.out (fun j u hj => hgr.cell (hYH.out j u hj) (by simp)) (encC_cell1 _) hcs hcn (Nat.le_trans hbase hgr.size)).mono ?_; rintro e w2 ⟨g2, cap2, rfl, hown2, hgr2, hge2, hlt2⟩))
  go_wp2
  go_ret
  have hgr' : w.grownBy w1 none := grown_trans (grown_drew (grown_refl w none)) hgr
  have hgr'' : w.grownBy w2 none := grown_trans hgr' hgr2
  have hs1 := hgr'.size
  refine ⟨w2.heap.size, _, _, rfl, hgr''.size, RepP.new hHH.out hgr'' { r with own := o } _ _ (hown1.kept hgr2 (.inr (by simp [Value.ownBlock]))) hown2 (fun b hb => ?_) (fun b hb => ?_) (fun e => by have e' : r.cs = [] := e; rw [e'] at hcs; cases hcs) hbase hOH.out, ?_, fun b hb => ?_⟩
  · simp only [Value.ownBlock, Option.some.injEq] at hb; rw [← hb]; exact hge
  · simp only [Value.ownBlock, Option.some.injEq] at hb; rw [← hb]; omega
  · exact grown_trans hgr'' (grown_alloc _ _)
  · simp only [Value.ownBlock, Option.some.injEq] at hb; rw [← hb]; exact hge

/-- o.writable(n): n itself where o owns it, else a copy; nothing that was there is written. -/
theorem writable2 (base n o : Nat) (r : Nd) (σ : Nat → Option Nd) (ph : Nat → Value × Value) (w : World) (h : RepP base w σ ph) (hr : σ n = some r) (ho : w.heap[o]? = some (.cells #[.int .u8 0] 47 (0, 0)))
    (hes : 0 < r.es.length) (hen : r.es.length < 1000000) (hcn : r.cs.length < 1000000) (hbase : base ≤ w.heap.size) :
    Calls Try.prog 37 #[.pointer (some ⟨o, 0, none⟩), .pointer (some ⟨n, 0, none⟩)] w fun e w' =>
      ∃ n' ph', e = .returned (.pointer (some ⟨n', 0, none⟩)) ∧ w.grownBy w' none ∧ ((n' = n ∧ r.own = o) ∨ σ n' = none) ∧ RepP base w' (upd σ n' { r with own := o }) ph' ∧ (∀ m, m ≠ n' → ph' m = ph m) ∧ ∀ b, (ph' n').1.ownBlock = some b → (∃ t, σ n' = some t ∧ ph' n' = ph n') ∨ w.heap.size ≤ b := by
  by_cases e : r.own = o
  · have c2 := h.c2 hr
    rw [e] at c2
    refine (writable_own n o w c2).mono ?_
    rintro e' w' ⟨rfl, rfl⟩
    refine ⟨n, ph, rfl, grown_refl _ _, .inl ⟨rfl, e⟩, ?_, fun _ _ => rfl, fun b hb => .inl ⟨r, hr, rfl⟩⟩
    have : upd σ n { r with own := o } = σ := by
      funext x
      unfold upd
      split
      · rename_i hx; rw [hx, hr, ← e]
      · rfl
    rw [this]
    exact h
  · rcases Nat.eq_zero_or_pos r.cs.length with hc | hc
    · refine (writable_leaf2 base n o r σ ph w h hr ho e hes hen (List.eq_nil_of_length_eq_zero hc) hbase).mono ?_
      rintro e' w' ⟨n', ve, vc, rfl, h1, h2, h3, h4⟩
      exact ⟨n', _, rfl, h3, .inr (Rep.fresh ⟨ph, h⟩ h1), h2, fun m hm => by simp [hm], fun b hb => .inr (h4 b (by simpa using hb))⟩
    · refine (writable_inner2 base n o r σ ph w h hr ho e hes hen hc hcn hbase).mono ?_
      rintro e' w' ⟨n', ve, vc, rfl, h1, h2, h3, h4⟩
      exact ⟨n', _, rfl, h3, .inr (Rep.fresh ⟨ph, h⟩ h1), h2, fun m hm => by simp [hm], fun b hb => .inr (h4 b (by simpa using hb))⟩

end Go.Proofs.Qxb6001038a
