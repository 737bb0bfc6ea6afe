import Derived.Test.Qxb6001038aK2
import Derived.Test.Qxb6001038aTr4
import Derived.Test.Qxb6001038aP1
namespace Go.Proofs.Qxb6001038a
open Go.RowKit
set_option linter.unusedVariables false
set_option linter.unusedSimpArgs false
attribute [local go_sem ↓] Go.wp_at_zero Go.wp_at_succ

theorem key_Z (n b i : Nat) (iZ : Int) (len cap : Nat) (s : ByteArray) (w : World) (hZ : iZ = i) (h : w.cell? ⟨n, 0, none⟩ = some (.slice (some ⟨b, 0, none⟩) len cap)) (hi : i < len)
    (hc : w.cell? ⟨b, i * 4, none⟩ = some (.string s)) :
    Calls Try.prog 35 #[.pointer (some ⟨n, 0, none⟩), .int .i64 iZ] w fun e w' => e = .returned (.string s) ∧ w' = w := by
  subst hZ
  exact key_any n b i len cap s w h hi hc
theorem child_Y (n b i : Nat) (len cap : Nat) (c : Option Addr) (iZ : Int) (w : World) (hZ : iZ = i) (h : w.cell? ⟨n, 1, none⟩ = some (.slice (some ⟨b, 0, none⟩) len cap)) (hi : i < len) (hc : w.cell? ⟨b, i, none⟩ = some (.pointer c)) :
    Calls Try.prog 15 #[.pointer (some ⟨n, 0, none⟩), .int .i64 iZ] w fun e w' => e = .returned (.pointer c) ∧ w' = w := by
  subst hZ
  exact child_any n b i len cap c w h hi hc

set_option maxHeartbeats 1000000 in
/-- edgeKey of a leaf. -/
theorem edge_leaf (x g l cap : Nat) (last : Bool) (k : Nat) (w : World) (h1 : w.cell? ⟨x, 1, none⟩ = some (.slice none 0 0)) (h0 : w.cell? ⟨x, 0, none⟩ = some (.slice (some ⟨g, 0, none⟩) (l + 1) cap)) (hl : l < 1000)
    (hk : w.cell? ⟨g, (if last then l else 0) * 4, none⟩ = some (.string (p6 k))) :
    Calls Try.prog 17 #[.pointer (some ⟨x, 0, none⟩), .bool last] w fun e w' => e = .returned (.string (p6 k)) ∧ w' = w := by
  cases last
  · have hkH := hide hk
    clear hk
    go_enter Try.func17, Try.ntmps17
    go_wp2_with fail
    refine wp_loop_rounds 1 ?_
    rw [rounds_succ]
    go_wp2_with (first
      | (go_at_call 34; refine (numChildren_any x _ 0 _ _ h1).mono ?_; rintro e w1 ⟨rfl, rfl⟩)
      | (go_at_call 14; refine (numEntries_any x _ (l + 1) _ _ h0).mono ?_; rintro e w1 ⟨rfl, rfl⟩)
      | (go_at_call 35; refine (key_Z x g 0 _ (l + 1) cap _ _ (by omega) h0 (by omega) (by simpa using hkH.out)).mono ?_; rintro e w1 ⟨rfl, rfl⟩))
    go_ret
    exact ⟨rfl, rfl⟩
  · have hkH := hide hk
    clear hk
    go_enter Try.func17, Try.ntmps17
    go_wp2_with fail
    refine wp_loop_rounds 1 ?_
    rw [rounds_succ]
    go_wp2_with (first
      | (go_at_call 34; refine (numChildren_any x _ 0 _ _ h1).mono ?_; rintro e w1 ⟨rfl, rfl⟩)
      | (go_at_call 14; refine (numEntries_any x _ (l + 1) _ _ h0).mono ?_; rintro e w1 ⟨rfl, rfl⟩)
      | (go_at_call 35; refine (key_Z x g l _ (l + 1) cap _ _ (by omega) h0 (by omega) (by simpa using hkH.out)).mono ?_; rintro e w1 ⟨rfl, rfl⟩))
    go_ret
    exact ⟨rfl, rfl⟩

set_option maxHeartbeats 1000000 in
/-- edgeKey of a node over leaves. -/
theorem edge_inner (x gc m capc c g l cap : Nat) (last : Bool) (k : Nat) (w : World) (hx : w.cell? ⟨x, 1, none⟩ = some (.slice (some ⟨gc, 0, none⟩) (m + 1) capc)) (hm : m < 1000) (hc : w.cell? ⟨gc, if last then m else 0, none⟩ = some (.pointer (some ⟨c, 0, none⟩))) (hcx : c ≠ x)
    (h1 : w.cell? ⟨c, 1, none⟩ = some (.slice none 0 0)) (h0 : w.cell? ⟨c, 0, none⟩ = some (.slice (some ⟨g, 0, none⟩) (l + 1) cap)) (hl : l < 1000)
    (hk : w.cell? ⟨g, (if last then l else 0) * 4, none⟩ = some (.string (p6 k))) :
    Calls Try.prog 17 #[.pointer (some ⟨x, 0, none⟩), .bool last] w fun e w' => e = .returned (.string (p6 k)) ∧ w' = w := by
  have q1 : (0 : Int) < (m : Int) + 1 := by omega
  cases last
  · have hkH := hide hk; have hcH := hide hc
    clear hk hc
    go_enter Try.func17, Try.ntmps17
    go_wp2_with fail
    refine wp_loop_rounds 2 ?_
    rw [rounds_succ]
    go_wp2_with (first
      | (go_at_call_of 34 (Value.pointer (some ⟨x, 0, none⟩)); refine (numChildren_any x _ (m + 1) _ _ hx).mono ?_; rintro e w1 ⟨rfl, rfl⟩)
      | (go_at_call 15; refine (child_Y x gc 0 (m + 1) capc _ _ _ (by omega) hx (by omega) (by simpa using hcH.out)).mono ?_; rintro e w1 ⟨rfl, rfl⟩))
    rw [rounds_succ]
    go_wp2_with (first
      | (go_at_call 34; refine (numChildren_any c _ 0 _ _ h1).mono ?_; rintro e w1 ⟨rfl, rfl⟩)
      | (go_at_call 14; refine (numEntries_any c _ (l + 1) _ _ h0).mono ?_; rintro e w1 ⟨rfl, rfl⟩)
      | (go_at_call 35; refine (key_Z c g 0 _ (l + 1) cap _ _ (by omega) h0 (by omega) (by simpa using hkH.out)).mono ?_; rintro e w1 ⟨rfl, rfl⟩))
    go_ret
    exact ⟨rfl, rfl⟩
  · have hkH := hide hk; have hcH := hide hc
    clear hk hc
    go_enter Try.func17, Try.ntmps17
    go_wp2_with fail
    refine wp_loop_rounds 2 ?_
    rw [rounds_succ]
    go_wp2_with (first
      | (go_at_call_of 34 (Value.pointer (some ⟨x, 0, none⟩)); refine (numChildren_any x _ (m + 1) _ _ hx).mono ?_; rintro e w1 ⟨rfl, rfl⟩)
      | (go_at_call 15; refine (child_Y x gc m (m + 1) capc _ _ _ (by omega) hx (by omega) (by simpa using hcH.out)).mono ?_; rintro e w1 ⟨rfl, rfl⟩))
    rw [rounds_succ]
    go_wp2_with (first
      | (go_at_call 34; refine (numChildren_any c _ 0 _ _ h1).mono ?_; rintro e w1 ⟨rfl, rfl⟩)
      | (go_at_call 14; refine (numEntries_any c _ (l + 1) _ _ h0).mono ?_; rintro e w1 ⟨rfl, rfl⟩)
      | (go_at_call 35; refine (key_Z c g l _ (l + 1) cap _ _ (by omega) h0 (by omega) (by simpa using hkH.out)).mono ?_; rintro e w1 ⟨rfl, rfl⟩))
    go_ret
    exact ⟨rfl, rfl⟩

theorem range_get (a n k : Nat) (h : k < n) : (List.range' a n).getD k 0 = a + k := by
  simp [List.getD, List.getElem?_range', h]
theorem leaf_edge {base : Nat} {w : World} {σ : Nat → Option Nd} {ph : Nat → Value × Value} {x a b : Nat} (hp : RepP base w σ ph) (hs : Sub σ 0 x a b) (last : Bool) :
    ∃ g l cap, l < 1000 ∧ w.cell? ⟨x, 1, none⟩ = some (.slice none 0 0) ∧ w.cell? ⟨x, 0, none⟩ = some (.slice (some ⟨g, 0, none⟩) (l + 1) cap) ∧ w.cell? ⟨g, (if last then l else 0) * 4, none⟩ = some (.string (p6 ((if last then b - 1 else a : Nat) : Nat))) := by
  obtain ⟨r, hr, h1, h2, hb⟩ := sub_body hs
  obtain ⟨hc0, hes⟩ : r.cs = [] ∧ r.es = List.range' a (b - a) := ⟨hb.1, by have h1 := hb.2.1; have h2 := hb.2.2; rw [show b - a = r.es.length by omega]; exact h1⟩
  obtain ⟨g, cap, hv, hl, hm, hg⟩ := ownsRow_pos (hp.nd x r hr).ents (by omega)
  have c0 := hp.c0 hr
  have c1 := hp.c1 hr
  rw [hv] at c0
  rw [(hp.nd x r hr).leaf hc0] at c1
  have hlen : r.es.length = b - a := by rw [hes]; simp
  refine ⟨g, r.es.length - 1, cap, by omega, c1, by rw [c0, show r.es.length - 1 + 1 = r.es.length by omega], ?_⟩
  cases last
  · have := (ent_cell hp hr hv 0 (by omega)).1
    have e : r.es.getD 0 0 = a := by rw [hes, range_get _ _ _ (by omega)]; rfl
    rw [e] at this
    exact this
  · have := (ent_cell hp hr hv (r.es.length - 1) (by omega)).1
    simp only [if_true]
    rw [this]
    have e : r.es.getD (r.es.length - 1) 0 = b - 1 := by
      rw [hlen, hes, range_get _ _ _ (by omega)]
      omega
    rw [e]

/-- edgeKey. -/
theorem edge_any (base h x a b : Nat) (last : Bool) (σ : Nat → Option Nd) (w : World) (hR : Rep base w σ) (hs : Sub σ h x a b) (hh : h ≤ 1) :
    Calls Try.prog 17 #[.pointer (some ⟨x, 0, none⟩), .bool last] w fun e w' => e = .returned (.string (p6 ((if last then b - 1 else a : Nat) : Nat))) ∧ w' = w := by
  obtain ⟨ph, hp⟩ := hR
  rcases (show h = 0 ∨ h = 1 by omega) with rfl | rfl
  · obtain ⟨g, l, cap, hl, h1, h0, hk⟩ := leaf_edge hp hs last
    exact edge_leaf x g l cap last _ w h1 h0 hl hk
  · obtain ⟨r, hr, h1, h2, hb⟩ := sub_body hs
    have hk : Kids (Sub σ 0) r.cs r.es a b := hb
    have hlen := kids_len hk
    obtain ⟨gc, capc, hv, hl, hm, hg⟩ := ownsRow_pos (hp.nd x r hr).kids (by omega)
    have c1 := hp.c1 hr
    rw [hv, hlen] at c1
    have key : ∀ k, k ≤ r.es.length → r.cs.getD k 0 ≠ x := fun k hk' e => by
      have hsub := kids_get hk k hk'
      rw [e] at hsub
      obtain ⟨r2, hr2, _, _, hb2⟩ := sub_body hsub
      rw [hr] at hr2
      cases hr2
      rw [hb2.1] at hlen
      simp at hlen
    cases last
    · have hsub := kids_get hk 0 (by omega)
      rw [show stK a r.es 0 = a from rfl] at hsub
      obtain ⟨g, l, cap, hl, d1, d0, dk⟩ := leaf_edge hp hsub false
      exact edge_inner x gc r.es.length capc _ g l cap false _ w c1 (by omega) (kid_cell hp hr hv 0 (by omega)) (key 0 (by omega)) d1 d0 hl dk
    · have hsub := kids_get hk r.es.length (Nat.le_refl _)
      rw [enK_last] at hsub
      obtain ⟨g, l, cap, hl, d1, d0, dk⟩ := leaf_edge hp hsub true
      exact edge_inner x gc r.es.length capc _ g l cap true _ w c1 (by omega) (kid_cell hp hr hv r.es.length (by omega)) (key r.es.length (by omega)) d1 d0 hl dk

end Go.Proofs.Qxb6001038a
