import Derived.Test.Qxb6001038aG4
import Derived.Test.Qxb6001038aTr3
namespace Go.Proofs.Qxb6001038a
open Go.RowKit
set_option linter.unusedVariables false
set_option linter.unusedSimpArgs false

theorem Keeps.widen {σ σ' : Nat → Option Nd} {o a b lo hi : Nat} (h : Keeps σ σ' o a b) (h1 : lo ≤ a) (h2 : b ≤ hi) : Keeps σ σ' o lo hi := fun x t hx hc => by
  refine h x t hx ?_
  rcases hc with hc | ⟨e, he, hc⟩
  · exact .inl hc
  · exact .inr ⟨e, he, by omega⟩

section
variable {σ σ' : Nat → Option Nd} {n h a b : Nat} {r : Nd}
theorem first_law (hr : σ n = some r) (hk : Kids (Sub σ h) r.cs r.es a b) (hne : 0 < r.es.length) (hf : ∀ x t, x ≠ n → σ x = some t → (∃ y ∈ t.es, y < stK a r.es 0 ∨ enK b r.es 0 ≤ y) → σ' x = some t)
    (hs : Sub σ' h (r.cs.getD 0 0) (stK a r.es 0 + 1) (enK b r.es 0)) : Kids (Sub σ' h) r.cs r.es (a + 1) b := by
  obtain ⟨i1, i2, i3, i4, i5⟩ := one_parts hr hk (k := 0) (by omega) hne
  obtain ⟨p1, p2⟩ := i5 σ' hf
  have hlen := kids_len hk
  have e1 : r.cs = [] ++ r.cs.getD 0 0 :: r.cs.drop 1 := lists_one (l := r.cs) (k := 0) (by omega)
  rw [e1]
  exact (kids_split (T := Sub σ' h) (A := []) (C := []) (D := r.es) (lo := a + 1) (hi := b) rfl).2 ⟨a + 1, _, rfl, hs, p2⟩
theorem last_law (hr : σ n = some r) (hk : Kids (Sub σ h) r.cs r.es a b) (hne : 0 < r.es.length) (hf : ∀ x t, x ≠ n → σ x = some t → (∃ y ∈ t.es, y < stK a r.es r.es.length ∨ enK b r.es r.es.length ≤ y) → σ' x = some t)
    (hs : Sub σ' h (r.cs.getD r.es.length 0) (stK a r.es r.es.length) (b - 1)) : Kids (Sub σ' h) r.cs r.es a (b - 1) := by
  obtain ⟨i1, i2, i3, i4, i5⟩ := one_parts hr hk (k := r.es.length) (by omega) hne
  obtain ⟨p1, p2⟩ := i5 σ' hf
  have hlen := kids_len hk
  have e1 : r.cs = r.cs.take r.es.length ++ r.cs.getD r.es.length 0 :: [] := by
    have := lists_one (l := r.cs) (k := r.es.length) (by omega)
    rwa [List.drop_of_length_le (by omega)] at this
  have e2 : r.es.take r.es.length ++ [] = r.es := by simp
  rw [e1]
  have := (kids_split (T := Sub σ' h) (A := r.cs.take r.es.length) (B := []) (c := r.cs.getD r.es.length 0) (C := r.es.take r.es.length) (D := []) (lo := a) (hi := b - 1) (by simp; omega)).2 ⟨_, _, p1, hs, rfl⟩
  rwa [e2] at this
end

def lo1 (last : Bool) (lo : Nat) : Nat := if last then lo else lo + 1
def hi1 (last : Bool) (hi : Nat) : Nat := if last then hi - 1 else hi

/-- What removeEdge leaves. -/
def EdgeFin (σ σ' : Nat → Option Nd) (n o h lo hi len : Nat) (last : Bool) : Prop :=
  ∃ r', σ' n = some r' ∧ r'.own = o ∧ Body σ' h r' (lo1 last lo) (hi1 last hi) ∧ len ≤ r'.es.length + 1 ∧ r'.es.length ≤ 31 ∧ Keeps σ σ' o lo hi

/-- On the way down. -/
structure EdgeInv (σ : Nat → Option Nd) (n o h lo hi len : Nat) (last : Bool) (σr : Nat → Option Nd) (nc hc a b : Nat) (rc : Nd) : Prop where
  nd : σr nc = some rc
  own : rc.own = o
  body : Body σr hc rc a b
  l16 : 16 ≤ rc.es.length
  l31 : rc.es.length ≤ 31
  edge : if last then b = hi else a = lo
  cont : ∀ σ'', EdgeFin σr σ'' nc o hc a b rc.es.length last → EdgeFin σ σ'' n o h lo hi len last

theorem edge_start {σ : Nat → Option Nd} {n o h lo hi : Nat} {last : Bool} {r : Nd} (hr : σ n = some r) (ho : r.own = o) (hb : Body σ h r lo hi) (h1 : 16 ≤ r.es.length) (h2 : r.es.length ≤ 31) : EdgeInv σ n o h lo hi r.es.length last σ n h lo hi r :=
  ⟨hr, ho, hb, h1, h2, by cases last <;> rfl, fun _ h => h⟩

theorem edge_step {σ σr σ' : Nat → Option Nd} {n o h lo hi len : Nat} {last : Bool} {nc hc a b j i : Nat} {rc r' s' : Nd} (hI : EdgeInv σ n o h lo hi len last σr nc (hc + 1) a b rc) (hi0 : i = if last then rc.es.length else 0)
    (g3 : σ' nc = some r') (g4 : r'.own = rc.own) (g5 : Kids (Sub σ' hc) r'.cs r'.es a b) (g6 : Keeps σr σ' rc.own a b) (g7 : j = i ∨ j + 1 = i) (g8 : j ≤ r'.es.length) (g9 : rc.es.length ≤ r'.es.length + 1) (g10 : r'.es.length ≤ rc.es.length)
    (g11 : σ' (r'.cs.getD j 0) = some s') (g12 : s'.own = rc.own) (g13 : 16 ≤ s'.es.length) (g15 : enK b rc.es i ≤ enK b r'.es j) :
    EdgeInv σ n o h lo hi len last σ' (r'.cs.getD j 0) hc (stK a r'.es j) (enK b r'.es j) s' := by
  have hown := hI.own
  have h16 := hI.l16
  have h31 := hI.l31
  have hne : 0 < r'.es.length := by omega
  obtain ⟨i1, i2, i3, i4, _⟩ := one_parts g3 g5 g8 hne
  obtain ⟨hb, l1, l2⟩ := body_of_sub g11 i1
  have hj : if last then j = r'.es.length else j = 0 := by
    cases last
    · simp only [Bool.false_eq_true, if_false] at hi0 ⊢
      omega
    · simp only [if_true] at hi0 ⊢
      rw [hi0, enK_last] at g15
      by_cases hlt : j < r'.es.length
      · rw [enK_lt hlt] at g15
        have := kids_mem (sub_le σ' hc) g5 _ (getD_mem hlt)
        omega
      · omega
  have hKn : ∀ σ'', Keeps σ' σ'' o (stK a r'.es j) (enK b r'.es j) → σ'' nc = some r' := fun σ'' hK => by
    obtain ⟨y, hy⟩ := mem_of_pos hne
    exact hK nc r' g3 (.inr ⟨y, hy, i4 y hy⟩)
  refine ⟨g11, g12.trans hown, hb, g13, l2, ?_, fun σ'' hF => hI.cont σ'' ?_⟩
  · have := hI.edge
    cases last
    · simp only [Bool.false_eq_true, if_false] at hj this ⊢
      rw [hj]
      exact this
    · simp only [if_true] at hj this ⊢
      rw [hj, enK_last]
      exact this
  · obtain ⟨s'', f1, f2, f3, f4, f5, f6⟩ := hF
    have hsub := body_sub f1 (by omega) f5 f3
    refine ⟨r', hKn σ'' f6, g4.trans hown, ?_, g9, by omega, ?_⟩
    · cases last
      · simp only [Bool.false_eq_true, if_false] at hj
        subst hj
        exact first_law g3 g5 hne (fun x t _ hx hy => f6 x t hx (.inr hy)) hsub
      · simp only [if_true] at hj
        subst hj
        refine last_law g3 g5 hne (fun x t _ hx hy => f6 x t hx (.inr hy)) ?_
        have h2 : hi1 true (enK b r'.es r'.es.length) = b - 1 := by rw [enK_last]; rfl
        rw [h2] at hsub
        exact hsub
    · rw [hown] at g6
      exact g6.trans (f6.widen i2 i3)

theorem edge_end {σ σr : Nat → Option Nd} {n o h lo hi len : Nat} {last : Bool} {nc a b i : Nat} {rc : Nd} (hI : EdgeInv σ n o h lo hi len last σr nc 0 a b rc) (hi0 : i = if last then rc.es.length - 1 else 0) :
    rc.es.getD i 0 = (if last then hi - 1 else lo) ∧ EdgeFin σ (upd σr nc { rc with es := rc.es.take i ++ rc.es.drop (i + 1) }) n o h lo hi len last := by
  have h16 := hI.l16
  have h31 := hI.l31
  obtain ⟨b1, b2, b3⟩ : rc.cs = [] ∧ rc.es = List.range' a rc.es.length ∧ b = a + rc.es.length := hI.body
  have hmem : ∀ y ∈ rc.es, a ≤ y ∧ y < b := fun y hy => by
    rw [b2] at hy
    simp at hy
    omega
  have hedge := hI.edge
  constructor
  · cases last
    · simp only [Bool.false_eq_true, if_false] at hi0 hedge ⊢
      rw [hi0, b2, ← hedge]
      simp [List.getD, List.getElem?_range', show 0 < rc.es.length by omega]
    · simp only [if_true] at hi0 hedge ⊢
      rw [hi0, ← hedge, b3]
      have : (List.range' a rc.es.length).getD (rc.es.length - 1) 0 = a + (rc.es.length - 1) := by
        simp [List.getD, List.getElem?_range', show rc.es.length - 1 < rc.es.length by omega]
      rw [b2, List.length_range', this]
      omega
  · refine hI.cont _ ⟨_, upd_same _ _ _, hI.own, ?_, ?_, ?_, fun x t hx hc => ?_⟩
    · refine ⟨b1, ?_, ?_⟩
      · cases last
        · simp only [Bool.false_eq_true, if_false] at hi0
          subst hi0
          simp only [List.take_zero, List.nil_append, Nat.zero_add, List.length_drop, lo1, Bool.false_eq_true, if_false]
          conv => lhs; rw [b2]
          rw [range_drop _ _ _ (by omega)]
        · simp only [if_true] at hi0
          subst hi0
          rw [List.drop_of_length_le (by omega), List.append_nil]
          simp only [List.length_take, lo1, if_true]
          rw [Nat.min_eq_left (by omega)]
          conv => lhs; rw [b2]
          rw [List.length_range', range_take _ _ _ (by omega)]
      · cases last
        · simp only [Bool.false_eq_true, if_false] at hi0
          subst hi0
          simp [hi1, lo1]
          omega
        · simp only [if_true] at hi0
          subst hi0
          simp [hi1, lo1]
          omega
    · simp; omega
    · simp; omega
    · by_cases e : x = nc
      · rw [e, hI.nd] at hx
        cases hx
        rcases hc with hc | ⟨y, hy, hc⟩
        · exact absurd hI.own hc
        · have := hmem y hy
          omega
      · rw [upd_other _ _ _ e]; exact hx

end Go.Proofs.Qxb6001038a
