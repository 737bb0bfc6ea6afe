import Derived.Test.Qxb6001038aG4b
namespace Go.Proofs.Qxb6001038a
open Go.RowKit
set_option linter.unusedVariables false

theorem wrap_nat (m : Nat) (h : m < 1000) : IntKind.i64.wrap (m : Int) = m := by
  rw [IntKind.wrap_i64]
  omega

theorem leaf_no (n : Nat) (ap : Option Addr) (len cap : Nat) (w : World) (hl : 0 < len) (h : w.cell? ⟨n, 1, none⟩ = some (.slice ap len cap)) :
    Calls Try.prog 41 #[.pointer (some ⟨n, 0, none⟩)] w fun e w' => e = .returned (.bool false) ∧ w' = w := by
  refine (leaf_any n ap len cap w h).mono ?_
  rintro e w' ⟨rfl, rfl⟩
  have : ((len : Int) == 0) = false := by simp; omega
  rw [this]
  exact ⟨rfl, rfl⟩

section
variable {B : Option Nat} {base : Nat} {w w' : World} {σ σ2 σ' : Nat → Option Nd} {n h lo hi i k c1 c2 : Nat} {r r2 s1 t2 : Nd}

theorem right_post (hR : Rep base w' σ') (hM : MutC base n w w') (hNB : NB B w' σ') (hK : Keeps σ σ2 r.own lo hi) (hn2 : σ2 n = some r2) (hk2 : Kids (Sub σ2 h) r2.cs r2.es lo hi) (hre : r2.es = r.es) (hro : r2.own = r.own) (hcs2 : σ2 c2 = some t2) (hcc2 : σ2 c1 = some s1)
    (hg2 : r2.cs.getD (i + 1) 0 = c2) (hgi2 : r2.cs.getD i 0 = c1) (hm2 : i < r2.es.length) (ht16 : 16 ≤ t2.es.length) (hs15 : s1.es.length = 15) (hso : s1.own = r.own) (hto : t2.own = r.own)
    (hn' : σ' n = some { r2 with es := r2.es.set i (t2.es.getD 0 0) })
    (hc2' : σ' c2 = some { t2 with es := t2.es.drop 1, cs := t2.cs.drop 1 })
    (hc1' : σ' c1 = some { s1 with es := s1.es ++ [r2.es.getD i 0], cs := s1.cs ++ t2.cs.take 1 })
    (hf : ∀ x t, x ≠ n → x ≠ c2 → x ≠ c1 → σ2 x = some t → σ' x = some t) : GrowPost B base w σ n r h lo hi i (.returned (.int .i64 i)) w' := by
  obtain ⟨hL, hlt⟩ := right_law (σ' := σ') hn2 hk2 hm2 (by rw [hgi2]; exact hcc2) (by rw [hg2]; exact hcs2) (by omega) ht16 (by rw [hgi2]; exact hc1') (by rw [hg2]; exact hc2') (fun x t h1 h2 h3 hx => hf x t h1 (by rw [← hg2]; exact h3) (by rw [← hgi2]; exact h2) hx)
  have mr := kids_mem (sub_le σ2 h) hk2
  obtain ⟨u1, v1, _, _, _, _, ms⟩ := kid_node (k := i) hn2 hk2 (by omega) (by omega)
  obtain ⟨u2, v2, _, _, _, _, mt⟩ := kid_node (k := i + 1) hn2 hk2 (by omega) (by omega)
  rw [hgi2, hcc2] at v1
  cases v1
  rw [hg2, hcs2] at v2
  cases v2
  have hK2 : Keeps σ2 σ' r.own lo hi := keeps_three hn2 hcs2 hcc2 hro hto hso hf mr mt ms
  refine ⟨i, _, { s1 with es := s1.es ++ [r2.es.getD i 0], cs := s1.cs ++ t2.cs.take 1 }, σ', rfl, hR, hM.mm, hn', hro, hL, hK.trans hK2, .inl rfl, ?_, ?_, ?_, ?_, ?_, ?_, ?_, ?_, hM.kc, hNB⟩
  · simp; omega
  · simp [hre]
  · simp [hre]
  · show σ' (r2.cs.getD i 0) = _
    rw [hgi2]
    exact hc1'
  · exact hso
  · simp [hs15]
  · show stK lo (r2.es.set i _) i ≤ _
    unfold stK
    by_cases h0 : i = 0
    · simp [h0]
    · rw [if_neg h0, if_neg h0, getD_set_other (by omega), hre]
      exact Nat.le_refl _
  · show _ ≤ enK hi (r2.es.set i _) i
    unfold enK
    rw [List.length_set, if_pos hm2, getD_set_self hm2, ← hre, if_pos hm2]
    omega

theorem merge_post (hR : Rep base w' σ') (hM : MutC base n w w') (hNB : NB B w' σ') (hK : Keeps σ σ2 r.own lo hi) (hn2 : σ2 n = some r2) (hk2 : Kids (Sub σ2 h) r2.cs r2.es lo hi) (hre : r2.es = r.es) (hro : r2.own = r.own) (hcs2 : σ2 c2 = some t2) (hcc2 : σ2 c1 = some s1)
    (hg2 : r2.cs.getD (k + 1) 0 = c2) (hgi2 : r2.cs.getD k 0 = c1) (hik : i = k ∨ i = k + 1) (hm2 : k < r2.es.length) (ht15 : t2.es.length = 15) (hs15 : s1.es.length = 15) (hso : s1.own = r.own)
    (hn' : σ' n = some { r2 with es := r2.es.take k ++ r2.es.drop (k + 1), cs := r2.cs.take (k + 1) ++ r2.cs.drop (k + 2) })
    (hc1' : σ' c1 = some { s1 with es := s1.es ++ r2.es.getD k 0 :: t2.es, cs := s1.cs ++ t2.cs })
    (hf : ∀ x t, x ≠ n → x ≠ c1 → σ2 x = some t → σ' x = some t) : GrowPost B base w σ n r h lo hi i (.returned (.int .i64 k)) w' := by
  have hL := merge_law (σ' := σ') hn2 hk2 hm2 (by rw [hgi2]; exact hcc2) (by rw [hg2]; exact hcs2) (by omega) (by rw [hgi2]; exact hc1') (fun x t h1 h2 h3 hx => hf x t h1 (by rw [← hgi2]; exact h2) hx)
  have mr := kids_mem (sub_le σ2 h) hk2
  have hlen := kids_len hk2
  obtain ⟨u1, v1, _, _, _, _, ms⟩ := kid_node (k := k) hn2 hk2 (by omega) (by omega)
  rw [hgi2, hcc2] at v1
  cases v1
  have hK2 : Keeps σ2 σ' r.own lo hi := keeps_three hn2 hcc2 hcc2 hro hso hso (fun x u h1 h2 _ hx => hf x u h1 h2 hx) mr ms ms
  have p1 := (one_parts hn2 hk2 (k := k) (by omega) (by omega)).1
  have p2 := (one_parts hn2 hk2 (k := k + 1) (by omega) (by omega)).1
  have q1 := sub_le σ2 h _ _ _ p1
  have q2 := sub_le σ2 h _ _ _ p2
  have e1 : enK hi r2.es k = r2.es.getD k 0 := by unfold enK; rw [if_pos hm2]
  have e2 : stK lo r2.es (k + 1) = r2.es.getD k 0 + 1 := stK_succ _ _ _
  have e3 : stK lo (r2.es.take k ++ r2.es.drop (k + 1)) k = stK lo r2.es k := by
    unfold stK
    by_cases h0 : k = 0
    · rw [if_pos h0, if_pos h0]
    · rw [if_neg h0, if_neg h0]
      have hkl : k - 1 < (r2.es.take k).length := by simp; omega
      simp only [List.getD]
      rw [List.getElem?_append_left hkl, List.getElem?_take]
      simp [show k - 1 < k by omega]
  have e4 : enK hi (r2.es.take k ++ r2.es.drop (k + 1)) k = enK hi r2.es (k + 1) := by
    unfold enK
    have hl : (r2.es.take k ++ r2.es.drop (k + 1)).length = r2.es.length - 1 := by simp; omega
    rw [hl]
    by_cases h0 : k + 1 < r2.es.length
    · rw [if_pos (by omega), if_pos h0]
      simp only [List.getD]
      rw [List.getElem?_append_right (by simp; omega), List.getElem?_drop, List.length_take, Nat.min_eq_left (by omega), Nat.sub_self, Nat.add_zero]
    · rw [if_neg (by omega), if_neg h0]
  refine ⟨k, _, { s1 with es := s1.es ++ r2.es.getD k 0 :: t2.es, cs := s1.cs ++ t2.cs }, σ', rfl, hR, hM.mm, hn', hro, hL, hK.trans hK2, ?_, ?_, ?_, ?_, ?_, ?_, ?_, ?_, ?_, hM.kc, hNB⟩
  · rcases hik with h | h
    · exact .inl h.symm
    · exact .inr h.symm
  · simp; omega
  · simp [← hre]; omega
  · simp [← hre]; omega
  · show σ' ((r2.cs.take (k + 1) ++ r2.cs.drop (k + 2)).getD k 0) = _
    have hkl : k < (r2.cs.take (k + 1)).length := by simp; omega
    have : (r2.cs.take (k + 1) ++ r2.cs.drop (k + 2)).getD k 0 = r2.cs.getD k 0 := by
      simp only [List.getD]
      rw [List.getElem?_append_left hkl, List.getElem?_take]
      simp
    rw [this, hgi2]
    exact hc1'
  · exact hso
  · simp; omega
  · show stK lo (r2.es.take k ++ r2.es.drop (k + 1)) k ≤ _
    rw [e3, ← hre]
    rcases hik with h | h
    · rw [h]; exact Nat.le_refl _
    · rw [h, e2]; omega
  · show _ ≤ enK hi (r2.es.take k ++ r2.es.drop (k + 1)) k
    rw [e4, ← hre]
    rcases hik with h | h
    · rw [h, e1]; omega
    · rw [h]; exact Nat.le_refl _
end

end Go.Proofs.Qxb6001038a
