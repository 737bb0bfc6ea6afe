import Derived.Test.Qxb6001038aTr4
namespace Go.Proofs.Qxb6001038a
set_option linter.unusedVariables false

theorem set_parts {l : List Nat} {k : Nat} (h : k < l.length) (v : Nat) : l.set k v = l.take k ++ v :: l.drop (k + 1) := by
  rw [List.set_eq_take_append_cons_drop, if_pos h]

section
variable {σ σ' : Nat → Option Nd} {h n k lo hi : Nat} {r s s2 : Nd}

/-- The two neighbours' bodies after the change. -/
theorem two_bodies (hr : σ n = some r) (hk : Kids (Sub σ h) r.cs r.es lo hi) (hk1 : k < r.es.length) (hs : σ (r.cs.getD k 0) = some s) (hs2 : σ (r.cs.getD (k + 1) 0) = some s2)
    (hf : ∀ x t, x ≠ n → x ≠ r.cs.getD k 0 → x ≠ r.cs.getD (k + 1) 0 → σ x = some t → σ' x = some t) :
    ∃ a b, Pre (Sub σ' h) (r.cs.take k) (r.es.take k) lo a ∧ Body σ' h s a (r.es.getD k 0) ∧ Body σ' h s2 (r.es.getD k 0 + 1) b ∧ Suf (Sub σ' h) (r.cs.drop (k + 2)) (r.es.drop (k + 1)) b hi ∧ lo ≤ a ∧ b ≤ hi ∧ a ≤ r.es.getD k 0 ∧ r.es.getD k 0 < b ∧ 15 ≤ s.es.length ∧ s.es.length ≤ 31 ∧ 15 ≤ s2.es.length ∧ s2.es.length ≤ 31 ∧ (∀ y ∈ s.es, a ≤ y ∧ y < r.es.getD k 0) ∧ (∀ y ∈ s2.es, r.es.getD k 0 < y ∧ y < b) := by
  obtain ⟨a, b, p1, s1, s2', p2, q1, q2, q3, q4⟩ := two_parts hr hk hk1 hf
  obtain ⟨b1, l1, l2⟩ := body_of_sub hs s1
  obtain ⟨b2, l3, l4⟩ := body_of_sub hs2 s2'
  have m1 := (sub_mem s1 hs).2.2
  have m2 := (sub_mem s2' hs2).2.2
  have hem := getD_mem hk1
  refine ⟨a, b, p1, body_frame hs l1 b1 (fun x t hx hl hne hall => hf x t (fun e => ?_) hne (fun e => ?_) hx), body_frame hs2 l3 b2 (fun x t hx hl hne hall => hf x t (fun e => ?_) (fun e => ?_) hne hx), p2, q1, q2, q3, q4, l1, l2, l3, l4, m1, fun y hy => by have := m2 y hy; omega⟩
  · rw [e, hr] at hx
    cases hx
    have := hall _ hem
    omega
  · rw [e] at hx
    obtain ⟨y, hy⟩ := mem_of_pos (l := t.es) (by omega)
    have := (sub_mem s2' hx).2.2 y hy
    have := hall y hy
    omega
  · rw [e, hr] at hx
    cases hx
    have := hall _ hem
    omega
  · rw [e] at hx
    obtain ⟨y, hy⟩ := mem_of_pos (l := t.es) (by omega)
    have := (sub_mem s1 hx).2.2 y hy
    have := hall y hy
    omega

theorem two_join {e' a b : Nat} (hlen : r.cs.length = r.es.length + 1) (hk1 : k < r.es.length) (p1 : Pre (Sub σ' h) (r.cs.take k) (r.es.take k) lo a) (s1 : Sub σ' h (r.cs.getD k 0) a e') (s2 : Sub σ' h (r.cs.getD (k + 1) 0) (e' + 1) b) (p2 : Suf (Sub σ' h) (r.cs.drop (k + 2)) (r.es.drop (k + 1)) b hi) :
    Kids (Sub σ' h) r.cs (r.es.set k e') lo hi := by
  rw [set_parts hk1, lists_two (l := r.cs) (k := k) (by omega)]
  have e1 : (r.cs.take k ++ r.cs.getD k 0 :: r.cs.getD (k + 1) 0 :: r.cs.drop (k + 2)) = r.cs := (lists_two (by omega)).symm
  exact (kids_split (by simp; omega)).2 ⟨a, e', p1, s1, rfl, b, s2, p2⟩

/-- ONE BORROWED FROM THE LEFT NEIGHBOUR. -/
theorem left_law (hr : σ n = some r) (hk : Kids (Sub σ h) r.cs r.es lo hi) (hk1 : k < r.es.length) (hs : σ (r.cs.getD k 0) = some s) (hs2 : σ (r.cs.getD (k + 1) 0) = some s2) (h16 : 16 ≤ s.es.length) (h30 : s2.es.length ≤ 30)
    (hc : σ' (r.cs.getD k 0) = some { s with es := s.es.take (s.es.length - 1), cs := s.cs.take (s.cs.length - 1) })
    (hc2 : σ' (r.cs.getD (k + 1) 0) = some { s2 with es := r.es.getD k 0 :: s2.es, cs := s.cs.drop (s.cs.length - 1) ++ s2.cs })
    (hf : ∀ x t, x ≠ n → x ≠ r.cs.getD k 0 → x ≠ r.cs.getD (k + 1) 0 → σ x = some t → σ' x = some t) :
    Kids (Sub σ' h) r.cs (r.es.set k (s.es.getD (s.es.length - 1) 0)) lo hi ∧ s.es.getD (s.es.length - 1) 0 < r.es.getD k 0 := by
  obtain ⟨a, b, p1, b1, b2, p2, q1, q2, q3, q4, l1, l2, l3, l4, m1, m2⟩ := two_bodies hr hk hk1 hs hs2 hf
  have hcl := body_cs b1
  have e1 : s.es = s.es.take (s.es.length - 1) ++ s.es.getD (s.es.length - 1) 0 :: [] := by
    have := lists_one (l := s.es) (k := s.es.length - 1) (by omega)
    rw [show s.es.length - 1 + 1 = s.es.length by omega, List.drop_length] at this
    exact this
  obtain ⟨c1, c2⟩ := body_cut (s := ⟨s.es.take (s.es.length - 1), s.cs.take (s.cs.length - 1), s.own⟩) (s2 := ⟨[], s.cs.drop (s.cs.length - 1), s.own⟩) (List.take_append_drop _ _).symm e1 (by
    by_cases h0 : h = 0
    · exact .inl h0
    · rw [if_neg h0] at hcl
      right
      simp
      omega) b1
  have d2 := body_app (t := { s2 with es := r.es.getD k 0 :: s2.es, cs := s.cs.drop (s.cs.length - 1) ++ s2.cs }) rfl rfl c2 b2
  refine ⟨two_join (kids_len hk) hk1 p1 (body_sub hc ?_ ?_ c1) (body_sub hc2 ?_ ?_ d2) p2, (m1 _ (getD_mem (by omega))).2⟩
  · simp; omega
  · simp; omega
  · simp; omega
  · simp; omega

/-- ONE BORROWED FROM THE RIGHT NEIGHBOUR. -/
theorem right_law (hr : σ n = some r) (hk : Kids (Sub σ h) r.cs r.es lo hi) (hk1 : k < r.es.length) (hs : σ (r.cs.getD k 0) = some s) (hs2 : σ (r.cs.getD (k + 1) 0) = some s2) (h30 : s.es.length ≤ 30) (h16 : 16 ≤ s2.es.length)
    (hc : σ' (r.cs.getD k 0) = some { s with es := s.es ++ [r.es.getD k 0], cs := s.cs ++ s2.cs.take 1 })
    (hc2 : σ' (r.cs.getD (k + 1) 0) = some { s2 with es := s2.es.drop 1, cs := s2.cs.drop 1 })
    (hf : ∀ x t, x ≠ n → x ≠ r.cs.getD k 0 → x ≠ r.cs.getD (k + 1) 0 → σ x = some t → σ' x = some t) :
    Kids (Sub σ' h) r.cs (r.es.set k (s2.es.getD 0 0)) lo hi ∧ r.es.getD k 0 < s2.es.getD 0 0 := by
  obtain ⟨a, b, p1, b1, b2, p2, q1, q2, q3, q4, l1, l2, l3, l4, m1, m2⟩ := two_bodies hr hk hk1 hs hs2 hf
  have hcl := body_cs b2
  have e1 : s2.es = [] ++ s2.es.getD 0 0 :: s2.es.drop 1 := lists_one (l := s2.es) (k := 0) (by omega)
  obtain ⟨c1, c2⟩ := body_cut (s := ⟨[], s2.cs.take 1, s.own⟩) (s2 := ⟨s2.es.drop 1, s2.cs.drop 1, s2.own⟩) (List.take_append_drop _ _).symm e1 (by
    by_cases h0 : h = 0
    · exact .inl h0
    · rw [if_neg h0] at hcl
      right
      simp
      omega) b2
  have d2 := body_app (t := { s with es := s.es ++ [r.es.getD k 0], cs := s.cs ++ s2.cs.take 1 }) rfl rfl b1 c1
  refine ⟨two_join (kids_len hk) hk1 p1 (body_sub hc ?_ ?_ d2) (body_sub hc2 ?_ ?_ c2) p2, (m2 _ (getD_mem (by omega))).1⟩
  · simp; omega
  · simp; omega
  · simp; omega
  · simp; omega

/-- TWO NEIGHBOURS MERGED. -/
theorem merge_law (hr : σ n = some r) (hk : Kids (Sub σ h) r.cs r.es lo hi) (hk1 : k < r.es.length) (hs : σ (r.cs.getD k 0) = some s) (hs2 : σ (r.cs.getD (k + 1) 0) = some s2) (h30 : s.es.length + s2.es.length ≤ 30)
    (hc : σ' (r.cs.getD k 0) = some { s with es := s.es ++ r.es.getD k 0 :: s2.es, cs := s.cs ++ s2.cs })
    (hf : ∀ x t, x ≠ n → x ≠ r.cs.getD k 0 → x ≠ r.cs.getD (k + 1) 0 → σ x = some t → σ' x = some t) :
    Kids (Sub σ' h) (r.cs.take (k + 1) ++ r.cs.drop (k + 2)) (r.es.take k ++ r.es.drop (k + 1)) lo hi := by
  obtain ⟨a, b, p1, b1, b2, p2, q1, q2, q3, q4, l1, l2, l3, l4, m1, m2⟩ := two_bodies hr hk hk1 hs hs2 hf
  have hlen := kids_len hk
  have d := body_app (t := { s with es := s.es ++ r.es.getD k 0 :: s2.es, cs := s.cs ++ s2.cs }) rfl rfl b1 b2
  have hS : Sub σ' h (r.cs.getD k 0) a b := body_sub hc (by simp; omega) (by simp; omega) d
  have e1 : r.cs.take (k + 1) ++ r.cs.drop (k + 2) = r.cs.take k ++ r.cs.getD k 0 :: r.cs.drop (k + 2) := by
    have hlt : k < r.cs.length := by omega
    have hg : r.cs.getD k 0 = r.cs[k] := by simp [List.getD, hlt]
    rw [hg, List.take_succ_eq_append_getElem hlt, List.append_assoc]
    rfl
  rw [e1]
  exact (kids_split (by simp; omega)).2 ⟨a, b, p1, hS, p2⟩

theorem pre_get {T : Nat → Nat → Nat → Prop} {cs es : List Nat} {lo m : Nat} (h : Pre T cs es lo m) : m = stK lo es es.length := by
  induction cs generalizing es lo with
  | nil => cases es with
    | nil => exact (Eq.symm h)
    | cons e es => exact h.elim
  | cons c cs ih => cases es with
    | nil => exact h.elim
    | cons e es =>
      have := ih h.2
      rw [this]
      cases es with
      | nil => simp [stK]
      | cons e2 es => simp [stK]

/-- One child and what lies about it. -/
theorem one_parts (hr : σ n = some r) (hk : Kids (Sub σ h) r.cs r.es lo hi) (hk1 : k ≤ r.es.length) (hne : 0 < r.es.length) :
    Sub σ h (r.cs.getD k 0) (stK lo r.es k) (enK hi r.es k) ∧ lo ≤ stK lo r.es k ∧ enK hi r.es k ≤ hi ∧ (∀ y ∈ r.es, y < stK lo r.es k ∨ enK hi r.es k ≤ y) ∧
    ∀ σ' : Nat → Option Nd, (∀ x t, x ≠ n → σ x = some t → (∃ y ∈ t.es, y < stK lo r.es k ∨ enK hi r.es k ≤ y) → σ' x = some t) →
      Pre (Sub σ' h) (r.cs.take k) (r.es.take k) lo (stK lo r.es k) ∧ Suf (Sub σ' h) (r.cs.drop (k + 1)) (r.es.drop k) (enK hi r.es k) hi := by
  have hlen := kids_len hk
  have hX := kids_X hk
  have e1 : r.cs = r.cs.take k ++ r.cs.getD k 0 :: r.cs.drop (k + 1) := lists_one (by omega)
  have e2 : r.es = r.es.take k ++ r.es.drop k := (List.take_append_drop _ _).symm
  obtain ⟨X, hXe⟩ : ∃ X, X = SubX σ h r.es lo hi := ⟨_, rfl⟩
  rw [← hXe, e1, e2] at hX
  obtain ⟨a, b, h1, h2, h3⟩ := (kids_split (by simp; omega)).1 hX
  have ha : a = stK lo r.es k := by
    rw [pre_get h1]
    unfold stK
    rw [List.length_take, Nat.min_eq_left hk1]
    by_cases h0 : k = 0
    · rw [if_pos h0, if_pos h0]
    · rw [if_neg h0, if_neg h0]
      simp [List.getD, show k - 1 < k by omega]
  have hb : b = enK hi r.es k := by
    obtain ⟨g1, g2, _⟩ := suf_get h3
    unfold enK
    by_cases h0 : k < r.es.length
    · rw [if_pos h0, g1 (by simp; omega)]
      simp [List.getD]
    · rw [if_neg h0, g2 (by simp; omega)]
  rw [ha] at h1
  rw [ha, hb] at h2
  rw [hb] at h3
  subst hXe
  obtain ⟨i1, i2, i3, i4⟩ := h2
  refine ⟨i1, i2, i3, i4, fun σ' hf => ?_⟩
  have hle := sub_le σ h _ _ _ i1
  have key : ∀ p q, (∀ x ∈ r.es, x < p ∨ q ≤ x) → (q ≤ stK lo r.es k ∨ enK hi r.es k ≤ p) → ∀ x t, σ x = some t → 15 ≤ t.es.length → (∀ y ∈ t.es, p ≤ y ∧ y < q) → σ' x = some t := fun p q hsep hd x t hx hl hall => by
    obtain ⟨y, hy⟩ := mem_of_pos (l := t.es) (by omega)
    have hy1 := hall y hy
    refine hf x t (fun ex => ?_) hx ⟨y, hy, by omega⟩
    rw [ex, hr] at hx
    cases hx
    have := hsep y hy
    omega
  constructor
  · exact pre_mono (subX_le σ h _ _ _) (fun x p q hp hq hx => sub_frameA h x p q (key p q hx.2.2.2 (.inl (by omega))) hx.1) h1
  · exact suf_mono (subX_le σ h _ _ _) (fun x p q hp hq hx => sub_frameA h x p q (key p q hx.2.2.2 (.inr (by omega))) hx.1) h3

/-- A CHILD TAKEN OVER: the node's own copy in its place. -/
theorem cow_law {c' : Nat} (hr : σ n = some r) (hk : Kids (Sub σ h) r.cs r.es lo hi) (hk1 : k ≤ r.es.length) (hne : 0 < r.es.length) (hs : σ (r.cs.getD k 0) = some s)
    (hf : ∀ x t, x ≠ n → σ x = some t → σ' x = some t) (hc : σ' c' = some { s with own := r.own }) : Kids (Sub σ' h) (r.cs.set k c') r.es lo hi := by
  obtain ⟨i1, i2, i3, i4, i5⟩ := one_parts hr hk hk1 hne
  obtain ⟨p1, p2⟩ := i5 σ' (fun x t h1 h2 _ => hf x t h1 h2)
  obtain ⟨b1, l1, l2⟩ := body_of_sub hs i1
  have hlen := kids_len hk
  have hle := sub_le σ h _ _ _ i1
  have b2 : Body σ' h s (stK lo r.es k) (enK hi r.es k) := body_frame hs l1 b1 (fun x t hx hl hn hall => hf x t (fun e => by
    rw [e, hr] at hx
    cases hx
    obtain ⟨y, hy⟩ := mem_of_pos (l := r.es) hne
    have := hall y hy
    have := i4 y hy
    omega) hx)
  have b3 : Body σ' h { s with own := r.own } (stK lo r.es k) (enK hi r.es k) := by
    cases h with
    | zero => exact b2
    | succ h => exact b2
  rw [set_parts (by omega)]
  have e2 : r.es = r.es.take k ++ r.es.drop k := (List.take_append_drop _ _).symm
  have := (kids_split (T := Sub σ' h) (A := r.cs.take k) (C := r.es.take k) (B := r.cs.drop (k + 1)) (D := r.es.drop k) (c := c') (lo := lo) (hi := hi) (by simp; omega)).2 ⟨_, _, p1, body_sub hc l1 l2 b3, p2⟩
  rwa [← e2] at this
end

end Go.Proofs.Qxb6001038a
