import Derived.Test.Qxb6001038aTr3
namespace Go.Proofs.Qxb6001038a
set_option linter.unusedVariables false

theorem mem_of_pos {l : List Nat} (h : 0 < l.length) : ∃ e, e ∈ l := by
  cases l with
  | nil => simp at h
  | cons e es => exact ⟨e, by simp⟩
theorem getD_mem {l : List Nat} {k : Nat} (h : k < l.length) : l.getD k 0 ∈ l := by
  simp only [List.getD]
  rw [List.getElem?_eq_getElem h]
  exact List.getElem_mem _

/-- A subtree stands where the nodes stand whose entries all lie in its range. -/
theorem sub_frameA {σ σ' : Nat → Option Nd} (h : Nat) : ∀ n lo hi, (∀ x t, σ x = some t → 15 ≤ t.es.length → (∀ e ∈ t.es, lo ≤ e ∧ e < hi) → σ' x = some t) → Sub σ h n lo hi → Sub σ' h n lo hi := by
  induction h with
  | zero =>
    intro n lo hi hf hs
    have hm := hs
    obtain ⟨r, h1, h2, h3, h4, h5, h6⟩ := hs
    exact ⟨r, hf n r h1 h2 (sub_mem (h := 0) hm h1).2.2, h2, h3, h4, h5, h6⟩
  | succ h ih =>
    intro n lo hi hf hs
    obtain ⟨r, h1, h2, h3, h4⟩ := hs
    have hm := kids_mem (sub_le σ h) h4
    refine ⟨r, hf n r h1 h2 hm, h2, h3, kids_mono (sub_le σ h) (fun c a b ha hb => ih c a b (fun x s hx hl hxe => hf x s hx hl (fun e he => ?_))) h4⟩
    have := hxe e he
    omega

section
variable {T : Nat → Nat → Nat → Prop}
theorem kids_cons {c : Nat} {cs es : List Nat} {lo hi : Nat} : Kids T (c :: cs) es lo hi ↔ ∃ m, T c lo m ∧ Suf T cs es m hi := Iff.rfl
theorem kids_app {cs es cs2 es2 : List Nat} {e lo hi : Nat} (hl : cs.length = es.length + 1) : Kids T (cs ++ cs2) (es ++ e :: es2) lo hi ↔ Kids T cs es lo e ∧ Kids T cs2 es2 (e + 1) hi := by
  induction cs generalizing es lo with
  | nil => simp at hl
  | cons c cs ih =>
    cases es with
    | nil =>
      have : cs = [] := List.eq_nil_of_length_eq_zero (by simpa using hl)
      subst this
      simp only [List.cons_append, List.nil_append, Kids, suf_cons, Suf]
      constructor
      · rintro ⟨m, h1, rfl, h2⟩; exact ⟨⟨m, h1, rfl⟩, h2⟩
      · rintro ⟨⟨m, h1, rfl⟩, h2⟩; exact ⟨m, h1, rfl, h2⟩
    | cons e1 es =>
      have hl' : cs.length = es.length + 1 := by simpa using hl
      rw [List.cons_append, List.cons_append, kids_cons, kids_cons]
      constructor
      · rintro ⟨m, h1, h2⟩
        obtain ⟨rfl, h2⟩ := (suf_cons _ _ _ _ _).1 h2
        obtain ⟨h3, h4⟩ := (ih hl').1 h2
        exact ⟨⟨m, h1, (suf_cons _ _ _ _ _).2 ⟨rfl, h3⟩⟩, h4⟩
      · rintro ⟨⟨m, h1, h2⟩, h3⟩
        obtain ⟨rfl, h2⟩ := (suf_cons _ _ _ _ _).1 h2
        exact ⟨m, h1, (suf_cons _ _ _ _ _).2 ⟨rfl, (ih hl').2 ⟨h2, h3⟩⟩⟩
theorem kids_one {c lo hi : Nat} : Kids T [c] [] lo hi ↔ T c lo hi := by
  simp only [Kids, Suf]
  constructor
  · rintro ⟨m, h, rfl⟩; exact h
  · intro h; exact ⟨hi, h, rfl⟩
end

/-- A child's subtree, and that its range holds none of the entries that part the children. -/
def SubX (σ : Nat → Option Nd) (h : Nat) (es : List Nat) (lo hi c a b : Nat) : Prop := Sub σ h c a b ∧ lo ≤ a ∧ b ≤ hi ∧ ∀ e ∈ es, e < a ∨ b ≤ e
theorem subX_le (σ : Nat → Option Nd) (h : Nat) (es : List Nat) (lo hi : Nat) : ∀ c a b, SubX σ h es lo hi c a b → a ≤ b := fun c a b hx => sub_le σ h c a b hx.1
theorem kids_X {σ : Nat → Option Nd} {h : Nat} {cs es : List Nat} {lo hi : Nat} (hk : Kids (Sub σ h) cs es lo hi) : Kids (SubX σ h es lo hi) cs es lo hi :=
  kids_mono' (sub_le σ h) (fun c a b ha hb hs hx => ⟨hx, ha, hb, hs⟩) hk

theorem lists_one {l : List Nat} {k : Nat} (h : k < l.length) : l = l.take k ++ l.getD k 0 :: l.drop (k + 1) := take_cons_drop l k h
theorem lists_two {l : List Nat} {k : Nat} (h : k + 1 < l.length) : l = l.take k ++ l.getD k 0 :: l.getD (k + 1) 0 :: l.drop (k + 2) := by
  have h1 := take_cons_drop l k (by omega)
  have h2 := List.drop_eq_getElem_cons h
  have h3 : l.getD (k + 1) 0 = l[k + 1] := by simp [List.getD, h]
  rw [← h3] at h2
  rw [h2] at h1
  exact h1

/-- Two neighbours and what lies about them. -/
theorem two_parts {σ σ' : Nat → Option Nd} {h n k lo hi : Nat} {r : Nd} (hr : σ n = some r) (hk : Kids (Sub σ h) r.cs r.es lo hi) (hk1 : k < r.es.length)
    (hf : ∀ x t, x ≠ n → x ≠ r.cs.getD k 0 → x ≠ r.cs.getD (k + 1) 0 → σ x = some t → σ' x = some t) :
    ∃ a b, Pre (Sub σ' h) (r.cs.take k) (r.es.take k) lo a ∧ Sub σ h (r.cs.getD k 0) a (r.es.getD k 0) ∧ Sub σ h (r.cs.getD (k + 1) 0) (r.es.getD k 0 + 1) b ∧ Suf (Sub σ' h) (r.cs.drop (k + 2)) (r.es.drop (k + 1)) b hi ∧
      lo ≤ a ∧ b ≤ hi ∧ a ≤ r.es.getD k 0 ∧ r.es.getD k 0 < b := by
  have hlen := kids_len hk
  have hX := kids_X hk
  obtain ⟨X, hXe⟩ : ∃ X, X = SubX σ h r.es lo hi := ⟨_, rfl⟩
  rw [← hXe] at hX
  have hem : r.es.getD k 0 ∈ r.es := getD_mem hk1
  have e1 : r.cs = r.cs.take k ++ r.cs.getD k 0 :: r.cs.getD (k + 1) 0 :: r.cs.drop (k + 2) := lists_two (by omega)
  have e2 : r.es = r.es.take k ++ r.es.getD k 0 :: r.es.drop (k + 1) := lists_one hk1
  obtain ⟨c, hc⟩ : ∃ c, c = r.cs.getD k 0 := ⟨_, rfl⟩
  obtain ⟨c2, hc2⟩ : ∃ c, c = r.cs.getD (k + 1) 0 := ⟨_, rfl⟩
  obtain ⟨e, he⟩ : ∃ e, e = r.es.getD k 0 := ⟨_, rfl⟩
  rw [← hc, ← hc2] at e1 hf ⊢
  rw [← he] at e2 hem ⊢
  rw [e1, e2] at hX
  obtain ⟨a, e', h1, h2, h3⟩ := (kids_split (by simp; omega)).1 hX
  obtain ⟨rfl, b, h4, h5⟩ := h3
  subst hXe
  have s1 := h2.1
  have s2 := h4.1
  have l1 := sub_le σ h _ _ _ s1
  have l2 := sub_le σ h _ _ _ s2
  have key : ∀ p q, (∀ x ∈ r.es, x < p ∨ q ≤ x) → (q ≤ a ∨ b ≤ p) → ∀ x t, σ x = some t → 15 ≤ t.es.length → (∀ y ∈ t.es, p ≤ y ∧ y < q) → σ' x = some t := fun p q hsep hd x t hx hl hall => by
    obtain ⟨y, hy⟩ := mem_of_pos (l := t.es) (by omega)
    have hy1 := hall y hy
    refine hf x t (fun ex => ?_) (fun ex => ?_) (fun ex => ?_) hx
    · rw [ex, hr] at hx
      cases hx
      have := hall e' hem
      have := hsep e' hem
      omega
    · rw [ex] at hx
      have := (sub_mem s1 hx).2.2 y hy
      omega
    · rw [ex] at hx
      have := (sub_mem s2 hx).2.2 y hy
      omega
  refine ⟨a, b, ?_, s1, s2, ?_, h2.2.1, h4.2.2.1, l1, by omega⟩
  · exact pre_mono (subX_le σ h _ _ _) (fun x p q hp hq hx => sub_frameA h x p q (key p q hx.2.2.2 (.inl (by omega))) hx.1) h1
  · exact suf_mono (subX_le σ h _ _ _) (fun x p q hp hq hx => sub_frameA h x p q (key p q hx.2.2.2 (.inr (by omega))) hx.1) h5

/-- What lies below a node stands where the nodes of its range, but for itself, stand. -/
theorem body_frame {σ σ' : Nat → Option Nd} {h c a b : Nat} {s : Nd} (hs : σ c = some s) (hl : 15 ≤ s.es.length) (hb : Body σ h s a b)
    (hf : ∀ x t, σ x = some t → 15 ≤ t.es.length → x ≠ c → (∀ e ∈ t.es, a ≤ e ∧ e < b) → σ' x = some t) : Body σ' h s a b := by
  cases h with
  | zero => exact hb
  | succ h =>
    refine kids_mono' (sub_le σ h) (fun x p q hp hq hsep hx => sub_frameA h x p q (fun y t hy hyl hall => hf y t hy hyl (fun ey => ?_) (fun e he => ?_)) hx) hb
    · rw [ey, hs] at hy
      cases hy
      obtain ⟨z, hz⟩ := mem_of_pos (l := s.es) (by omega)
      have := hall z hz
      have := hsep z hz
      omega
    · have := hall e he
      omega

theorem body_of_sub {σ : Nat → Option Nd} {h c a b : Nat} {s : Nd} (hs : σ c = some s) (h1 : Sub σ h c a b) : Body σ h s a b ∧ 15 ≤ s.es.length ∧ s.es.length ≤ 31 := by
  obtain ⟨r, h2, h3, h4, h5⟩ := sub_body h1
  rw [hs] at h2
  cases h2
  exact ⟨h5, h3, h4⟩

theorem body_cs {σ : Nat → Option Nd} {h a b : Nat} {s : Nd} (hb : Body σ h s a b) : s.cs.length = if h = 0 then 0 else s.es.length + 1 := by
  cases h with
  | zero => simp [hb.1]
  | succ h => simpa using kids_len hb

/-- The bodies of two neighbours and the entry between them are one body. -/
theorem body_app {σ : Nat → Option Nd} {h a b e : Nat} {s s2 t : Nd} (hc : t.cs = s.cs ++ s2.cs) (he : t.es = s.es ++ e :: s2.es) (h1 : Body σ h s a e) (h2 : Body σ h s2 (e + 1) b) : Body σ h t a b := by
  cases h with
  | zero =>
    obtain ⟨p1, p2, p3⟩ := h1
    obtain ⟨q1, q2, q3⟩ := h2
    refine ⟨by rw [hc, p1, q1]; rfl, ?_, by rw [he]; simp; omega⟩
    rw [he]
    have : (s.es ++ e :: s2.es).length = s.es.length + (s2.es.length + 1) := by simp
    rw [this, ← List.range'_append, Nat.one_mul, ← p3, List.range'_succ, ← p2, ← q2]
  | succ h =>
    show Kids (Sub σ h) t.cs t.es a b
    rw [hc, he]
    exact (kids_app (kids_len h1)).2 ⟨h1, h2⟩
/-- One body parted at an entry. -/
theorem body_cut {σ : Nat → Option Nd} {h a b e : Nat} {s s2 t : Nd} (hc : t.cs = s.cs ++ s2.cs) (he : t.es = s.es ++ e :: s2.es) (hl : h = 0 ∨ s.cs.length = s.es.length + 1) (hb : Body σ h t a b) : Body σ h s a e ∧ Body σ h s2 (e + 1) b := by
  cases h with
  | zero =>
    obtain ⟨p1, p2, p3⟩ := hb
    rw [hc] at p1
    obtain ⟨c1, c2⟩ := List.append_eq_nil_iff.1 p1
    have hlen : t.es.length = s.es.length + (s2.es.length + 1) := by rw [he]; simp
    rw [hlen] at p2 p3
    rw [he, ← List.range'_append, Nat.one_mul] at p2
    obtain ⟨q1, q2⟩ := List.append_inj p2 (by simp)
    rw [List.range'_succ] at q2
    simp only [List.cons.injEq] at q2
    exact ⟨⟨c1, q1, q2.1⟩, ⟨c2, by rw [q2.1]; exact q2.2, by omega⟩⟩
  | succ h =>
    have hl' : s.cs.length = s.es.length + 1 := by rcases hl with h | h; omega; exact h
    have hb' : Kids (Sub σ h) t.cs t.es a b := hb
    rw [hc, he] at hb'
    exact (kids_app hl').1 hb'

end Go.Proofs.Qxb6001038a
