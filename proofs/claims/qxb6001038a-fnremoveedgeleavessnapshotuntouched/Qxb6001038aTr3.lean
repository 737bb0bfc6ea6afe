import Derived.Test.Qxb6001038aTr2
namespace Go.Proofs.Qxb6001038a
set_option linter.unusedVariables false

section
variable {T T' : Nat → Nat → Nat → Prop}

theorem pre_mem (hT : ∀ c a b, T c a b → a ≤ b) {cs es : List Nat} {lo m : Nat} (h : Pre T cs es lo m) : ∀ e ∈ es, lo ≤ e ∧ e < m := by
  induction cs generalizing es lo with
  | nil => cases es with
    | nil => intro e he; cases he
    | cons e es => exact h.elim
  | cons c cs ih => cases es with
    | nil => exact h.elim
    | cons e es =>
      have h1 := hT _ _ _ h.1
      have h2 := pre_le hT h.2
      intro x hx
      rcases List.mem_cons.1 hx with rfl | hx
      · omega
      · have := ih h.2 x hx; omega

theorem pre_mono' (hT : ∀ c a b, T c a b → a ≤ b) {cs es : List Nat} {lo m : Nat} (hm : ∀ c a b, lo ≤ a → b < m → (∀ e ∈ es, e < a ∨ b ≤ e) → T c a b → T' c a b) (h : Pre T cs es lo m) : Pre T' cs es lo m := by
  induction cs generalizing es lo with
  | nil => cases es with
    | nil => exact h
    | cons e es => exact h.elim
  | cons c cs ih => cases es with
    | nil => exact h.elim
    | cons e es =>
      have h1 := hT _ _ _ h.1
      have h2 := pre_le hT h.2
      have h3 := pre_mem hT h.2
      refine ⟨hm _ _ _ (Nat.le_refl _) (by omega) (fun x hx => ?_) h.1, ih (fun c a b ha hb hs => hm c a b (by omega) hb (fun x hx => ?_)) h.2⟩
      · rcases List.mem_cons.1 hx with rfl | hx
        · exact .inr (Nat.le_refl _)
        · exact .inr (by have := h3 x hx; omega)
      · rcases List.mem_cons.1 hx with rfl | hx
        · exact .inl (by omega)
        · exact hs x hx

/-- A child's range holds none of the entries that part the children. -/
theorem suf_mono' (hT : ∀ c a b, T c a b → a ≤ b) {cs es : List Nat} {m hi : Nat} (hm : ∀ c a b, m < a → b ≤ hi → (∀ e ∈ es, e < a ∨ b ≤ e) → T c a b → T' c a b) (h : Suf T cs es m hi) : Suf T' cs es m hi := by
  induction cs generalizing es m with
  | nil => cases es with
    | nil => exact h
    | cons e es => exact h.elim
  | cons c cs ih => cases es with
    | nil => exact h.elim
    | cons e es =>
      obtain ⟨rfl, m', h1, h2⟩ := h
      have h3 := hT _ _ _ h1
      have h4 := suf_le hT h2
      have h5 := suf_mem hT h2
      refine ⟨rfl, m', hm _ _ _ (by omega) h4 (fun e he => ?_) h1, ih (fun c a b ha hb hs => hm c a b (by omega) hb (fun e he => ?_)) h2⟩
      · rcases List.mem_cons.1 he with rfl | he
        · exact .inl (by omega)
        · exact .inr (h5 e he).1
      · rcases List.mem_cons.1 he with rfl | he
        · exact .inl (by omega)
        · exact hs e he
theorem kids_mono' (hT : ∀ c a b, T c a b → a ≤ b) {cs es : List Nat} {lo hi : Nat} (hm : ∀ c a b, lo ≤ a → b ≤ hi → (∀ e ∈ es, e < a ∨ b ≤ e) → T c a b → T' c a b) (h : Kids T cs es lo hi) : Kids T' cs es lo hi := by
  cases cs with
  | nil => exact h.elim
  | cons c cs =>
    obtain ⟨m, h1, h2⟩ := h
    have h3 := hT _ _ _ h1
    have h4 := suf_le hT h2
    have h5 := suf_mem hT h2
    exact ⟨m, hm _ _ _ (Nat.le_refl _) h4 (fun e he => .inr (h5 e he).1) h1, suf_mono' hT (fun c a b ha hb hs => hm c a b (by omega) hb hs) h2⟩
end

theorem sub_frame' {σ σ' : Nat → Option Nd} {h n lo hi : Nat} (hf : ∀ x r, σ x = some r → (∃ e ∈ r.es, lo ≤ e ∧ e < hi) → σ' x = some r) (hs : Sub σ h n lo hi) : Sub σ' h n lo hi := sub_frame h n lo hi hf hs

theorem range_take (a n k : Nat) (h : k ≤ n) : (List.range' a n).take k = List.range' a k := by
  have := List.range'_append (s := a) (m := k) (n := n - k) (step := 1)
  rw [show k + (n - k) = n by omega] at this
  rw [← this, List.take_left' (by simp)]
theorem range_drop (a n k : Nat) (h : k ≤ n) : (List.range' a n).drop k = List.range' (a + k) (n - k) := by
  have := List.range'_append (s := a) (m := k) (n := n - k) (step := 1)
  rw [show k + (n - k) = n by omega] at this
  rw [← this, List.drop_left' (by simp), Nat.one_mul]

theorem take_cons_drop (l : List Nat) (i : Nat) (hi : i < l.length) : l = l.take i ++ l.getD i 0 :: l.drop (i + 1) := by
  have : l.getD i 0 = l[i] := by simp [List.getD, hi]
  rw [this, ← List.drop_eq_getElem_cons hi, List.take_append_drop]

/-- A full node of a subtree parted at its middle entry. -/
theorem split_parts {σ σ' : Nat → Option Nd} {h c m a b : Nat} {s : Nd} {own : Nat} (hs : σ c = some s) (hsub : Sub σ h c a b) (hl : s.es.length = 31)
    (hc : σ' c = some { s with es := s.es.take 15, cs := s.cs.take 16 }) (hm : σ' m = some ⟨s.es.drop 16, s.cs.drop 16, own⟩)
    (hf : ∀ x r, x ≠ c → σ x = some r → (∃ e ∈ r.es, a ≤ e ∧ e < b) → σ' x = some r) :
    Sub σ' h c a (s.es.getD 15 0) ∧ Sub σ' h m (s.es.getD 15 0 + 1) b ∧ a ≤ s.es.getD 15 0 ∧ s.es.getD 15 0 < b := by
  have hmem := (sub_mem hsub hs).2.2 (s.es.getD 15 0) (by
    simp only [List.getD]
    rw [List.getElem?_eq_getElem (by omega)]
    exact List.getElem_mem _)
  cases h with
  | zero =>
    obtain ⟨r, h1, h2, h3, h4, h5, h6⟩ := hsub
    rw [hs] at h1
    cases h1
    rw [hl] at h5 h6
    have e15 : s.es.getD 15 0 = a + 15 := by rw [h5]; simp [List.getD]
    rw [e15] at hmem ⊢
    refine ⟨⟨_, hc, by simp [hl], by simp [hl], by simp [h4], ?_, by simp [hl]⟩, ⟨_, hm, by simp [hl], by simp [hl], by simp [h4], ?_, by simp [hl]; omega⟩, hmem.1, hmem.2⟩
    · show s.es.take 15 = _
      rw [show (s.es.take 15).length = 15 by simp [hl]]
      rw [h5, range_take _ _ _ (by omega)]
    · show s.es.drop 16 = _
      rw [show (s.es.drop 16).length = 15 by simp [hl]]
      rw [h5, range_drop _ _ _ (by omega)]
  | succ h =>
    obtain ⟨r, h1, h2, h3, h4⟩ := hsub
    rw [hs] at h1
    cases h1
    have hcl := kids_len h4
    have hk' : Kids (Sub σ' h) s.cs s.es a b := kids_mono' (sub_le σ h) (fun x p q hp hq hsep hx => sub_frame' (fun y ry hy hye => by
      obtain ⟨e, he, he1, he2⟩ := hye
      refine hf y ry (fun ec => ?_) hy ⟨e, he, by omega, by omega⟩
      rw [ec, hs] at hy
      cases hy
      rcases hsep e he with h | h <;> omega) hx) h4
    have ec : s.cs = s.cs.take 15 ++ s.cs.getD 15 0 :: s.cs.drop 16 := take_cons_drop s.cs 15 (by omega)
    have ee : s.es = s.es.take 15 ++ s.es.getD 15 0 :: s.es.drop 16 := take_cons_drop s.es 15 (by omega)
    rw [ec, ee] at hk'
    obtain ⟨p, q, k1, k2, k3⟩ := (kids_split (by simp; omega)).1 hk'
    rw [suf_cons] at k3
    obtain ⟨rfl, k4⟩ := k3
    refine ⟨⟨_, hc, by simp [hl], by simp [hl], ?_⟩, ⟨_, hm, by simp [hl], by simp [hl], k4⟩, hmem.1, hmem.2⟩
    show Kids (Sub σ' h) (s.cs.take 16) (s.es.take 15) a _
    have e16 : s.cs.take 16 = s.cs.take 15 ++ [s.cs.getD 15 0] := by
      rw [List.take_succ_eq_append_getElem (by omega)]
      simp [List.getD, hcl, hl]
    rw [e16]
    have := (kids_split (T := Sub σ' h) (A := s.cs.take 15) (C := s.es.take 15) (B := []) (D := []) (c := s.cs.getD 15 0) (lo := a) (hi := s.es.getD 15 0) (by simp; omega)).2 ⟨p, _, k1, k2, rfl⟩
    simpa using this

/-- THE SPLIT's LAW on the tree. -/
theorem split_law {σ σ' : Nat → Option Nd} {h n m i lo hi : Nat} {r s : Nd} (hr : σ n = some r) (hk : Kids (Sub σ h) r.cs r.es lo hi) (hi1 : i ≤ r.es.length) (hcn : r.cs.getD i 0 ≠ n) (hs : σ (r.cs.getD i 0) = some s) (hl : s.es.length = 31) (hm : σ m = none)
    (hσ : σ' = upd (upd (upd σ m ⟨s.es.drop 16, s.cs.drop 16, r.own⟩) (r.cs.getD i 0) { s with es := s.es.take 15, cs := s.cs.take 16 }) n { r with es := r.es.take i ++ ([s.es.getD 15 0] ++ r.es.drop i), cs := r.cs.take (i + 1) ++ ([m] ++ r.cs.drop (i + 1)) }) :
    Kids (Sub σ' h) (r.cs.take (i + 1) ++ ([m] ++ r.cs.drop (i + 1))) (r.es.take i ++ ([s.es.getD 15 0] ++ r.es.drop i)) lo hi := by
  obtain ⟨c, hc⟩ : ∃ c, c = r.cs.getD i 0 := ⟨_, rfl⟩
  rw [← hc] at hcn hs hσ
  have hmc : c ≠ m := fun e => by rw [e, hm] at hs; cases hs
  have hmn : n ≠ m := fun e => by rw [e, hm] at hr; cases hr
  have hcl := kids_len hk
  have hσc : σ' c = some { s with es := s.es.take 15, cs := s.cs.take 16 } := by rw [hσ, upd_other _ _ _ hcn, upd_same]
  have hσm : σ' m = some ⟨s.es.drop 16, s.cs.drop 16, r.own⟩ := by rw [hσ, upd_other _ _ _ (Ne.symm hmn), upd_other _ _ _ (Ne.symm hmc), upd_same]
  have hσo : ∀ x t, x ≠ n → x ≠ c → σ x = some t → σ' x = some t := fun x t h1 h2 hx => by
    have h3 : x ≠ m := fun e => by rw [e, hm] at hx; cases hx
    rw [hσ, upd_other _ _ _ h1, upd_other _ _ _ h2, upd_other _ _ _ h3]; exact hx
  have ec : r.cs = r.cs.take i ++ c :: r.cs.drop (i + 1) := by rw [hc]; exact take_cons_drop r.cs i (by omega)
  have ee : r.es = r.es.take i ++ r.es.drop i := (List.take_append_drop _ _).symm
  have hk2 := hk
  rw [ec, ee] at hk2
  obtain ⟨a, b, k1, k2, k3⟩ := (kids_split (by simp; omega)).1 hk2
  have hsmem := (sub_mem k2 hs).2.2
  have hab := sub_le σ h _ _ _ k2
  have p1 := pre_mem (sub_le σ h) k1
  have p3 := suf_mem (sub_le σ h) k3
  have hrmem : ∀ e ∈ r.es, e < a ∨ b ≤ e := fun e he => by
    rw [ee] at he
    rcases List.mem_append.1 he with he | he
    · exact .inl (p1 e he).2
    · exact .inr (p3 e he).1
  obtain ⟨s1, s2, s3, s4⟩ := split_parts (σ' := σ') (own := r.own) hs k2 hl hσc hσm (fun x t hx hxs hxe => by
    refine hσo x t (fun e => ?_) hx hxs
    rw [e, hr] at hxs
    cases hxs
    obtain ⟨y, hy, hy1, hy2⟩ := hxe
    rcases hrmem y hy with h | h <;> omega)
  have k1' : Pre (Sub σ' h) (r.cs.take i) (r.es.take i) lo a := by
    refine pre_mono' (sub_le σ h) (fun x p q hp hq hsep hx => sub_frame' (fun y t hy hye => ?_) hx) k1
    obtain ⟨e, he, he1, he2⟩ := hye
    refine hσo y t (fun e' => ?_) (fun e' => ?_) hy
    · rw [e', hr] at hy
      cases hy
      rw [ee] at he
      rcases List.mem_append.1 he with he | he
      · rcases hsep e he with h | h <;> omega
      · have := (p3 e he).1; omega
    · rw [e', hs] at hy
      cases hy
      have := hsmem e he
      omega
  have k3' : Suf (Sub σ' h) (r.cs.drop (i + 1)) (r.es.drop i) b hi := by
    refine suf_mono' (sub_le σ h) (fun x p q hp hq hsep hx => sub_frame' (fun y t hy hye => ?_) hx) k3
    obtain ⟨e, he, he1, he2⟩ := hye
    refine hσo y t (fun e' => ?_) (fun e' => ?_) hy
    · rw [e', hr] at hy
      cases hy
      rw [ee] at he
      rcases List.mem_append.1 he with he | he
      · have := (p1 e he).2; omega
      · rcases hsep e he with h | h <;> omega
    · rw [e', hs] at hy
      cases hy
      have := hsmem e he
      omega
  have e1 : r.cs.take (i + 1) ++ ([m] ++ r.cs.drop (i + 1)) = r.cs.take i ++ c :: (m :: r.cs.drop (i + 1)) := by
    have hlt : i < r.cs.length := by omega
    have hget : r.cs[i] = c := by rw [hc]; simp [List.getD, hlt]
    rw [List.take_succ_eq_append_getElem hlt, hget]
    simp
  rw [e1]
  refine (kids_split (by simp; omega)).2 ⟨a, s.es.getD 15 0, k1', s1, ?_⟩
  exact ⟨rfl, b, s2, k3'⟩

end Go.Proofs.Qxb6001038a
