import Derived.Test.Qxb6001038aTr
namespace Go.Proofs.Qxb6001038a
set_option linter.unusedVariables false

/-- Where the k-th child's keys begin, and end. -/
def stK (lo : Nat) (es : List Nat) (k : Nat) : Nat := if k = 0 then lo else es.getD (k - 1) 0 + 1
def enK (hi : Nat) (es : List Nat) (k : Nat) : Nat := if k < es.length then es.getD k 0 else hi

theorem suf_get {T : Nat → Nat → Nat → Prop} {cs es : List Nat} {m hi : Nat} (h : Suf T cs es m hi) : (0 < es.length → m = es.getD 0 0) ∧ (es.length = 0 → m = hi) ∧ ∀ k, k < es.length → T (cs.getD k 0) (es.getD k 0 + 1) (enK hi es (k + 1)) := by
  induction cs generalizing es m with
  | nil => cases es with
    | nil => exact ⟨fun h => by simp at h, fun _ => h, fun k hk => by simp at hk⟩
    | cons e es => exact h.elim
  | cons c cs ih => cases es with
    | nil => exact h.elim
    | cons e es =>
      obtain ⟨rfl, m', h1, h2⟩ := h
      obtain ⟨i1, i2, i3⟩ := ih h2
      refine ⟨fun _ => rfl, fun h => by simp at h, fun k hk => ?_⟩
      cases k with
      | zero =>
        have : enK hi (m :: es) (0 + 1) = m' := by
          unfold enK
          by_cases h0 : 0 < es.length
          · rw [if_pos (by simp only [List.length_cons]; omega)]
            simpa using (i1 h0).symm
          · rw [if_neg (by simp only [List.length_cons]; omega)]
            exact (i2 (by omega)).symm
        rw [this]
        exact h1
      | succ k =>
        have hk' : k < es.length := by simpa using hk
        have := i3 k hk'
        have e1 : enK hi (m :: es) (k + 1 + 1) = enK hi es (k + 1) := by
          unfold enK
          simp only [List.length_cons, Nat.add_lt_add_iff_right, List.getD_cons_succ]
        rw [e1]
        simpa using this

theorem kids_get {T : Nat → Nat → Nat → Prop} {cs es : List Nat} {lo hi : Nat} (h : Kids T cs es lo hi) : ∀ k, k ≤ es.length → T (cs.getD k 0) (stK lo es k) (enK hi es k) := by
  cases cs with
  | nil => exact h.elim
  | cons c cs =>
    obtain ⟨m, h1, h2⟩ := h
    obtain ⟨i1, i2, i3⟩ := suf_get h2
    intro k hk
    cases k with
    | zero =>
      have : enK hi es 0 = m := by
        unfold enK
        by_cases h0 : 0 < es.length
        · rw [if_pos h0]; exact (i1 h0).symm
        · rw [if_neg h0]; exact (i2 (by omega)).symm
      rw [this]
      exact h1
    | succ k =>
      have := i3 k (by omega)
      unfold stK
      simpa using this

theorem stK_succ (lo : Nat) (es : List Nat) (k : Nat) : stK lo es (k + 1) = es.getD k 0 + 1 := by simp [stK]
theorem enK_lt {hi : Nat} {es : List Nat} {k : Nat} (h : k < es.length) : enK hi es k = es.getD k 0 := by simp [enK, h]
theorem enK_last (hi : Nat) (es : List Nat) : enK hi es es.length = hi := by simp [enK]

theorem stK_le {T : Nat → Nat → Nat → Prop} (hT : ∀ c a b, T c a b → a ≤ b) {cs es : List Nat} {lo hi : Nat} (h : Kids T cs es lo hi) (k : Nat) (hk : k ≤ es.length) : lo ≤ stK lo es k ∧ stK lo es k ≤ enK hi es k ∧ enK hi es k ≤ hi := by
  have h1 := hT _ _ _ (kids_get h k hk)
  have hm := kids_mem hT h
  refine ⟨?_, h1, ?_⟩
  · unfold stK
    split
    · exact Nat.le_refl _
    · have := hm (es.getD (k - 1) 0) (by
        simp only [List.getD]
        rw [List.getElem?_eq_getElem (by omega)]
        exact List.getElem_mem _)
      omega
  · unfold enK
    split
    · rename_i hlt
      have := hm (es.getD k 0) (by
        simp only [List.getD]
        rw [List.getElem?_eq_getElem hlt]
        exact List.getElem_mem _)
      omega
    · exact Nat.le_refl _

theorem range_join (a b c : Nat) (h1 : a ≤ b) (h2 : b ≤ c) : List.range' a (b - a) ++ List.range' b (c - b) = List.range' a (c - a) := by
  have := List.range'_append (s := a) (m := b - a) (n := c - b) (step := 1)
  rw [Nat.one_mul, show a + (b - a) = b by omega, show b - a + (c - b) = c - a by omega] at this
  exact this
theorem range_one (a b : Nat) (h1 : a ≤ b) : List.range' a (b - a) ++ [b] = List.range' a (b + 1 - a) := by
  rw [show b + 1 - a = (b - a) + 1 by omega, List.range'_concat, Nat.one_mul, show a + (b - a) = b by omega]

/-- What lies below a node of height h. -/
def Body (σ : Nat → Option Nd) : Nat → Nd → Nat → Nat → Prop
  | 0, r, lo, hi => r.cs = [] ∧ r.es = List.range' lo r.es.length ∧ hi = lo + r.es.length
  | h + 1, r, lo, hi => Kids (Sub σ h) r.cs r.es lo hi

theorem sub_body {σ : Nat → Option Nd} {h n lo hi : Nat} (hs : Sub σ h n lo hi) : ∃ r, σ n = some r ∧ 15 ≤ r.es.length ∧ r.es.length ≤ 31 ∧ Body σ h r lo hi := by
  cases h with
  | zero => obtain ⟨r, h1, h2, h3, h4, h5, h6⟩ := hs; exact ⟨r, h1, h2, h3, h4, h5, h6⟩
  | succ h => obtain ⟨r, h1, h2, h3, h4⟩ := hs; exact ⟨r, h1, h2, h3, h4⟩
theorem body_sub {σ : Nat → Option Nd} {h n lo hi : Nat} {r : Nd} (hr : σ n = some r) (h1 : 15 ≤ r.es.length) (h2 : r.es.length ≤ 31) (hb : Body σ h r lo hi) : Sub σ h n lo hi := by
  cases h with
  | zero => exact ⟨r, hr, h1, h2, hb.1, hb.2.1, hb.2.2⟩
  | succ h => exact ⟨r, hr, h1, h2, hb⟩
theorem body_le {σ : Nat → Option Nd} {h lo hi : Nat} {r : Nd} (hb : Body σ h r lo hi) : lo ≤ hi := by
  cases h with
  | zero => have := hb.2.2; omega
  | succ h => exact kids_le (sub_le σ h) hb

end Go.Proofs.Qxb6001038a
