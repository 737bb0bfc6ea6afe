import Derived.Test.Qxb6001038aG4
namespace Go.Proofs.Qxb6001038a
open Go.RowKit
set_option linter.unusedVariables false

theorem getD_set_self {l : List Nat} {k v : Nat} (h : k < l.length) : (l.set k v).getD k 0 = v := by simp [List.getD, h]
theorem getD_set_other {l : List Nat} {k j v : Nat} (h : j ≠ k) : (l.set k v).getD j 0 = l.getD j 0 := by simp [List.getD, Ne.symm h]

section
variable {B : Option Nat} {base : Nat} {w w' : World} {σ σ2 σ' : Nat → Option Nd} {n h lo hi i m c1 c2 : Nat} {r r2 s1 t2 : Nd}

theorem left_post (hR : Rep base w' σ') (hM : MutC base n w w') (hNB : NB B w' σ') (hK : Keeps σ σ2 r.own lo hi) (hn2 : σ2 n = some r2) (hk2 : Kids (Sub σ2 h) r2.cs r2.es lo hi) (hre : r2.es = r.es) (hro : r2.own = r.own) (hcs2 : σ2 c2 = some t2) (hcc2 : σ2 c1 = some s1)
    (hg2 : r2.cs.getD m 0 = c2) (hgi2 : r2.cs.getD i 0 = c1) (him : i = m + 1) (hm2 : m < r2.es.length) (ht16 : 16 ≤ t2.es.length) (hs15 : s1.es.length = 15) (hso : s1.own = r.own) (hto : t2.own = r.own)
    (hn' : σ' n = some { r2 with es := r2.es.set m (t2.es.getD (t2.es.length - 1) 0) })
    (hc2' : σ' c2 = some { t2 with es := t2.es.take (t2.es.length - 1), cs := t2.cs.take (t2.cs.length - 1) })
    (hc1' : σ' c1 = some { s1 with es := r2.es.getD m 0 :: s1.es, cs := t2.cs.drop (t2.cs.length - 1) ++ s1.cs })
    (hf : ∀ x t, x ≠ n → x ≠ c2 → x ≠ c1 → σ2 x = some t → σ' x = some t) : GrowPost B base w σ n r h lo hi i (.returned (.int .i64 i)) w' := by
  subst him
  obtain ⟨hL, hlt⟩ := left_law (σ' := σ') hn2 hk2 hm2 (by rw [hg2]; exact hcs2) (by rw [hgi2]; exact hcc2) ht16 (by omega) (by rw [hg2]; exact hc2') (by rw [hgi2]; exact hc1') (fun x t h1 h2 h3 hx => hf x t h1 (by rw [← hg2]; exact h2) (by rw [← hgi2]; exact h3) hx)
  have mr := kids_mem (sub_le σ2 h) hk2
  obtain ⟨u1, v1, _, _, _, _, ms⟩ := kid_node (k := m + 1) hn2 hk2 (by omega) (by omega)
  obtain ⟨u2, v2, _, _, _, _, mt⟩ := kid_node (k := m) hn2 hk2 (by omega) (by omega)
  rw [hgi2, hcc2] at v1
  cases v1
  rw [hg2, hcs2] at v2
  cases v2
  have hK2 : Keeps σ2 σ' r.own lo hi := keeps_three hn2 hcs2 hcc2 hro hto hso hf mr mt ms
  refine ⟨m + 1, _, { s1 with es := r2.es.getD m 0 :: s1.es, cs := t2.cs.drop (t2.cs.length - 1) ++ s1.cs }, σ', rfl, hR, hM.mm, hn', hro, hL, hK.trans hK2, .inl rfl, ?_, ?_, ?_, ?_, ?_, ?_, ?_, ?_, hM.kc, hNB⟩
  · simp; omega
  · simp [hre]
  · simp [hre]
  · show σ' (r2.cs.getD (m + 1) 0) = _
    rw [hgi2]
    exact hc1'
  · exact hso
  · simp [hs15]
  · show stK lo (r2.es.set m _) (m + 1) ≤ _
    rw [stK_succ, stK_succ, getD_set_self hm2, ← hre]
    omega
  · show _ ≤ enK hi (r2.es.set m _) (m + 1)
    unfold enK
    rw [List.length_set, hre, getD_set_other (by omega)]
    exact Nat.le_refl _
end

end Go.Proofs.Qxb6001038a
