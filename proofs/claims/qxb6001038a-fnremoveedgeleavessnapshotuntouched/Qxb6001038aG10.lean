import Derived.Test.Qxb6001038aG2
import Derived.Test.Qxb6001038aG5
import Derived.Test.Qxb6001038aG6Z
import Derived.Test.Qxb6001038aG6L
import Derived.Test.Qxb6001038aG9
namespace Go.Proofs.Qxb6001038a
open Go.RowKit
set_option linter.unusedVariables false

/-- GROW. -/
theorem grow_any (B : Option Nat) (base n h lo hi i : Nat) (ii : Int) (r : Nd) (σ : Nat → Option Nd) (w : World) (hii : ii = i) (hR : Rep base w σ) (hN0 : NB B w σ) (hr : σ n = some r) (hk : Kids (Sub σ h) r.cs r.es lo hi) (hir : i ≤ r.es.length) (hre0 : 0 < r.es.length) (hre : r.es.length ≤ 31) (hbase : base ≤ w.heap.size) :
    Calls Try.prog 36 #[.pointer (some ⟨n, 0, none⟩), .int .i64 ii] w (GrowPost B base w σ n r h lo hi i) := by
  have hlen := kids_len hk
  obtain ⟨s, s1, s2, s3, s4, s5, s6⟩ := kid_node (k := i) hr hk hir hre0
  have hsc1 : s.cs.length < 100 := by rw [s5]; split <;> omega
  by_cases h16 : 16 ≤ s.es.length
  · subst hii
    refine (grow_enough B base n i _ r s σ w hR hN0 hr (by omega) rfl s1 s2 h16 (by omega) hsc1 (by omega) hbase).mono ?_
    rintro e w' ⟨c', rfl, hor, hcn, hR', hM', hN'⟩
    obtain ⟨σ1, r1, t1, hσ1, hr1d, hs1d, hn1, hcs1, hk1, hkp1, hre1, hro1, hrl1, hg1, hse1, hsc1', hso1, hoth1, hf1⟩ := cow_next hr hk hir hre0 rfl s1 hor hcn
    rw [← hσ1] at hR' hN'
    refine ⟨i, r1, t1, σ1, rfl, hR', hM'.mm, hn1, hro1, hk1, hkp1, .inl rfl, by rw [hre1]; exact hir, by rw [hre1]; omega, by rw [hre1]; exact Nat.le_refl _, by rw [hg1]; exact hcs1, hso1, by rw [hse1]; exact h16, by rw [hre1]; exact Nat.le_refl _, by rw [hre1]; exact Nat.le_refl _, hM'.kc, hN'⟩
  have h15 : s.es.length = 15 := by omega
  by_cases hz : i = 0
  · obtain ⟨t, t1, t2, t3, t4, t5, t6⟩ := kid_node (k := i + 1) hr hk (by omega) hre0
    have htwo := kid_two hr hk (k := i) (by omega)
    by_cases hr16 : 16 ≤ t.es.length
    · exact grow_right0 B base n h lo hi _ _ ii i (i + 1) r s t σ w hii rfl hR hN0 hr hk (by omega) hre hz rfl s1 s2 rfl t1 t2 (Ne.symm htwo) h15 hr16 t4 s5 t5 s6 t6 hbase
    · exact grow_mergea B base n h lo hi _ i _ (i + 1) ii r s t σ w hii hR hN0 hr hk hre0 hre hz (by omega) rfl rfl t1 t2 (by omega) t5 rfl s1 s2 h15 s5 hbase
  obtain ⟨m, hm⟩ : ∃ m, i = m + 1 := ⟨i - 1, by omega⟩
  obtain ⟨u, u1, u2, u3, u4, u5, u6⟩ := kid_node (k := m) hr hk (by omega) hre0
  have htwo := kid_two hr hk (k := m) (by omega)
  rw [← hm] at htwo
  by_cases hl16 : 16 ≤ u.es.length
  · exact grow_left B base n m h lo hi _ _ ii i r s u σ w hii hm hR hN0 hr hk (by omega) hre rfl s1 s2 rfl u1 u2 htwo h15 hl16 u4 s5 u5 s6 u6 hbase
  have hu15 : u.es.length = 15 := by omega
  by_cases hie : i = r.es.length
  · exact grow_mergec B base n h lo hi _ i m _ ii r s u σ w hii hR hN0 hr hk hre0 hre hm rfl u1 u2 hu15 u5 hie rfl s1 s2 h15 s5 hbase
  obtain ⟨t, t1, t2, t3, t4, t5, t6⟩ := kid_node (k := i + 1) hr hk (by omega) hre0
  have htwo' := kid_two hr hk (k := i) (by omega)
  by_cases hr16 : 16 ≤ t.es.length
  · exact grow_rightL B base n h lo hi _ _ m _ ii i (i + 1) r s t u σ w hii rfl hR hN0 hr hk (by omega) hre hm rfl u1 u2 hu15 rfl s1 s2 rfl t1 t2 (Ne.symm htwo') h15 hr16 t4 s5 t5 s6 t6 hbase
  · exact grow_mergeb B base n h lo hi _ i _ (i + 1) m _ ii r s t u σ w hii hR hN0 hr hk hre0 hre hm rfl u1 u2 hu15 (by omega) rfl rfl t1 t2 (by omega) t5 rfl s1 s2 h15 s5 hbase

end Go.Proofs.Qxb6001038a
