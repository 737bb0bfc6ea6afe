import Derived.Test.Qxb6001038aRep
namespace Go.Proofs.Qxb6001038a
set_option linter.unusedVariables false

section
variable {T T' : Nat → Nat → Nat → Prop}

/-- child, entry, child, entry, ..: from lo to m. -/
def Pre (T : Nat → Nat → Nat → Prop) : List Nat → List Nat → Nat → Nat → Prop
  | [], [], lo, m => lo = m
  | c :: cs, e :: es, lo, m => T c lo e ∧ Pre T cs es (e + 1) m
  | _, _, _, _ => False

/-- entry, child, entry, child, ..: from m to hi. -/
def Suf (T : Nat → Nat → Nat → Prop) : List Nat → List Nat → Nat → Nat → Prop
  | [], [], m, hi => m = hi
  | c :: cs, e :: es, m, hi => m = e ∧ ∃ m', T c (e + 1) m' ∧ Suf T cs es m' hi
  | _, _, _, _ => False

/-- child, entry, child, .., child: from lo to hi. -/
def Kids (T : Nat → Nat → Nat → Prop) : List Nat → List Nat → Nat → Nat → Prop
  | [], _, _, _ => False
  | c :: cs, es, lo, hi => ∃ m, T c lo m ∧ Suf T cs es m hi

theorem suf_cons (cs : List Nat) (e : Nat) (es : List Nat) (m hi : Nat) : Suf T cs (e :: es) m hi ↔ m = e ∧ Kids T cs es (e + 1) hi := by
  cases cs with
  | nil => simp [Suf, Kids]
  | cons c cs => simp [Suf, Kids]

theorem pre_len {cs es : List Nat} {lo m : Nat} (h : Pre T cs es lo m) : cs.length = es.length := by
  induction cs generalizing es lo with
  | nil => cases es with
    | nil => rfl
    | cons e es => exact h.elim
  | cons c cs ih => cases es with
    | nil => exact h.elim
    | cons e es => simp [ih h.2]
theorem suf_len {cs es : List Nat} {m hi : Nat} (h : Suf T cs es m hi) : cs.length = es.length := by
  induction cs generalizing es m with
  | nil => cases es with
    | nil => rfl
    | cons e es => exact h.elim
  | cons c cs ih => cases es with
    | nil => exact h.elim
    | cons e es =>
      obtain ⟨_, m', _, h2⟩ := h
      simp [ih h2]
theorem kids_len {cs es : List Nat} {lo hi : Nat} (h : Kids T cs es lo hi) : cs.length = es.length + 1 := by
  cases cs with
  | nil => exact h.elim
  | cons c cs =>
    obtain ⟨m, _, h2⟩ := h
    simp [suf_len h2]

theorem pre_snoc {cs es : List Nat} {lo m c e : Nat} (h : Pre T cs es lo m) (hc : T c m e) : Pre T (cs ++ [c]) (es ++ [e]) lo (e + 1) := by
  induction cs generalizing es lo with
  | nil => cases es with
    | nil => obtain rfl : lo = m := h; exact ⟨hc, rfl⟩
    | cons e es => exact h.elim
  | cons c cs ih => cases es with
    | nil => exact h.elim
    | cons e es => exact ⟨h.1, ih h.2⟩

theorem kids_split {A C B D : List Nat} {c lo hi : Nat} (hl : A.length = C.length) : Kids T (A ++ c :: B) (C ++ D) lo hi ↔ ∃ m m', Pre T A C lo m ∧ T c m m' ∧ Suf T B D m' hi := by
  induction A generalizing C lo with
  | nil => cases C with
    | nil => simp [Kids, Pre]
    | cons e C => simp at hl
  | cons a A ih => cases C with
    | nil => simp at hl
    | cons e C =>
      simp only [List.cons_append, Kids, suf_cons]
      constructor
      · rintro ⟨m, h1, rfl, h2⟩
        obtain ⟨m1, m2, p1, p2, p3⟩ := (ih (by simpa using hl)).1 h2
        exact ⟨m1, m2, ⟨h1, p1⟩, p2, p3⟩
      · rintro ⟨m1, m2, ⟨h1, p1⟩, p2, p3⟩
        exact ⟨e, h1, rfl, (ih (by simpa using hl)).2 ⟨m1, m2, p1, p2, p3⟩⟩

theorem pre_le (hT : ∀ c a b, T c a b → a ≤ b) {cs es : List Nat} {lo m : Nat} (h : Pre T cs es lo m) : lo ≤ m := by
  induction cs generalizing es lo with
  | nil => cases es with
    | nil => exact Nat.le_of_eq h
    | cons e es => exact h.elim
  | cons c cs ih => cases es with
    | nil => exact h.elim
    | cons e es => have := hT _ _ _ h.1; have := ih h.2; omega
theorem suf_le (hT : ∀ c a b, T c a b → a ≤ b) {cs es : List Nat} {m hi : Nat} (h : Suf T cs es m hi) : m ≤ hi := by
  induction cs generalizing es m with
  | nil => cases es with
    | nil => exact Nat.le_of_eq h
    | cons e es => exact h.elim
  | cons c cs ih => cases es with
    | nil => exact h.elim
    | cons e es =>
      obtain ⟨rfl, m', h1, h2⟩ := h
      have := hT _ _ _ h1; have := ih h2; omega
theorem kids_le (hT : ∀ c a b, T c a b → a ≤ b) {cs es : List Nat} {lo hi : Nat} (h : Kids T cs es lo hi) : lo ≤ hi := by
  cases cs with
  | nil => exact h.elim
  | cons c cs =>
    obtain ⟨m, h1, h2⟩ := h
    exact Nat.le_trans (hT _ _ _ h1) (suf_le hT h2)

theorem pre_mono (hT : ∀ c a b, T c a b → a ≤ b) {cs es : List Nat} {lo m : Nat} (hm : ∀ c a b, lo ≤ a → b < m → T c a b → T' c a b) (h : Pre T cs es lo m) : Pre T' cs es lo m := by
  induction cs generalizing es lo with
  | nil => cases es with
    | nil => exact h
    | cons e es => exact h.elim
  | cons c cs ih => cases es with
    | nil => exact h.elim
    | cons e es =>
      have h1 := hT _ _ _ h.1
      have h2 := pre_le hT h.2
      exact ⟨hm _ _ _ (Nat.le_refl _) (by omega) h.1, ih (fun c a b ha hb => hm c a b (by omega) hb) h.2⟩
theorem suf_mono (hT : ∀ c a b, T c a b → a ≤ b) {cs es : List Nat} {m hi : Nat} (hm : ∀ c a b, m < a → b ≤ hi → T c a b → T' c a b) (h : Suf T cs es m hi) : Suf T' cs es m hi := by
  induction cs generalizing es m with
  | nil => cases es with
    | nil => exact h
    | cons e es => exact h.elim
  | cons c cs ih => cases es with
    | nil => exact h.elim
    | cons e es =>
      obtain ⟨rfl, m', h1, h2⟩ := h
      have h3 := hT _ _ _ h1
      have h4 := suf_le hT h2
      exact ⟨rfl, m', hm _ _ _ (by omega) h4 h1, ih (fun c a b ha hb => hm c a b (by omega) hb) h2⟩
theorem kids_mono (hT : ∀ c a b, T c a b → a ≤ b) {cs es : List Nat} {lo hi : Nat} (hm : ∀ c a b, lo ≤ a → b ≤ hi → T c a b → T' c a b) (h : Kids T cs es lo hi) : Kids T' cs es lo hi := by
  cases cs with
  | nil => exact h.elim
  | cons c cs =>
    obtain ⟨m, h1, h2⟩ := h
    have h3 := hT _ _ _ h1
    have h4 := suf_le hT h2
    exact ⟨m, hm _ _ _ (Nat.le_refl _) h4 h1, suf_mono hT (fun c a b ha hb => hm c a b (by omega) hb) h2⟩

theorem suf_mem (hT : ∀ c a b, T c a b → a ≤ b) {cs es : List Nat} {m hi : Nat} (h : Suf T cs es m hi) : ∀ e ∈ es, m ≤ e ∧ e < hi := by
  induction cs generalizing es m with
  | nil => cases es with
    | nil => intro e he; cases he
    | cons e es => exact h.elim
  | cons c cs ih => cases es with
    | nil => exact h.elim
    | cons e es =>
      obtain ⟨rfl, m', h1, h2⟩ := h
      have h3 := hT _ _ _ h1
      have h4 := suf_le hT h2
      intro x hx
      rcases List.mem_cons.1 hx with rfl | hx
      · omega
      · have := ih h2 x hx; omega
theorem kids_mem (hT : ∀ c a b, T c a b → a ≤ b) {cs es : List Nat} {lo hi : Nat} (h : Kids T cs es lo hi) : ∀ e ∈ es, lo ≤ e ∧ e < hi := by
  cases cs with
  | nil => exact h.elim
  | cons c cs =>
    obtain ⟨m, h1, h2⟩ := h
    intro e he
    have := suf_mem hT h2 e he
    have := hT _ _ _ h1
    omega

end

/-- A subtree (not the root) of height h at node n, its keys in order the numbers from lo on, below hi. -/
def Sub (σ : Nat → Option Nd) : Nat → Nat → Nat → Nat → Prop
  | 0, n, lo, hi => ∃ r, σ n = some r ∧ 15 ≤ r.es.length ∧ r.es.length ≤ 31 ∧ r.cs = [] ∧ r.es = List.range' lo r.es.length ∧ hi = lo + r.es.length
  | h + 1, n, lo, hi => ∃ r, σ n = some r ∧ 15 ≤ r.es.length ∧ r.es.length ≤ 31 ∧ Kids (Sub σ h) r.cs r.es lo hi

theorem sub_le (σ : Nat → Option Nd) (h : Nat) : ∀ n lo hi, Sub σ h n lo hi → lo ≤ hi := by
  induction h with
  | zero => rintro n lo hi ⟨r, _, _, _, _, _, rfl⟩; omega
  | succ h ih => rintro n lo hi ⟨r, _, _, _, hk⟩; exact kids_le ih hk

theorem sub_mem {σ : Nat → Option Nd} {h n lo hi : Nat} {r : Nd} (hs : Sub σ h n lo hi) (hr : σ n = some r) : 15 ≤ r.es.length ∧ r.es.length ≤ 31 ∧ ∀ e ∈ r.es, lo ≤ e ∧ e < hi := by
  cases h with
  | zero =>
    obtain ⟨r', h1, h2, h3, h4, h5, h6⟩ := hs
    rw [hr] at h1
    cases h1
    refine ⟨h2, h3, fun e he => ?_⟩
    rw [h5] at he
    simp [List.mem_range'] at he
    omega
  | succ h =>
    obtain ⟨r', h1, h2, h3, h4⟩ := hs
    rw [hr] at h1
    cases h1
    exact ⟨h2, h3, kids_mem (sub_le σ h) h4⟩

/-- A subtree stands where the nodes with entries in its range stand. -/
theorem sub_frame {σ σ' : Nat → Option Nd} (h : Nat) : ∀ n lo hi, (∀ x r, σ x = some r → (∃ e ∈ r.es, lo ≤ e ∧ e < hi) → σ' x = some r) → Sub σ h n lo hi → Sub σ' h n lo hi := by
  induction h with
  | zero =>
    intro n lo hi hf hs
    obtain ⟨r, h1, h2, h3, h4, h5, h6⟩ := hs
    refine ⟨r, hf n r h1 ⟨lo, ?_, Nat.le_refl _, by omega⟩, h2, h3, h4, h5, h6⟩
    rw [h5]
    simp [List.mem_range']
    omega
  | succ h ih =>
    intro n lo hi hf hs
    obtain ⟨r, h1, h2, h3, h4⟩ := hs
    have hm := kids_mem (sub_le σ h) h4
    have hn : ∃ e ∈ r.es, lo ≤ e ∧ e < hi := by
      cases he : r.es with
      | nil => rw [he] at h2; simp at h2
      | cons e es => exact ⟨e, by simp, hm e (by rw [he]; simp)⟩
    refine ⟨r, hf n r h1 hn, h2, h3, kids_mono (sub_le σ h) (fun c a b ha hb => ih c a b (fun x s hx hxe => hf x s hx ?_)) h4⟩
    obtain ⟨e, he, h5, h6⟩ := hxe
    exact ⟨e, he, by omega, by omega⟩
theorem sub_mono {σ σ' : Nat → Option Nd} (h n lo hi : Nat) (hf : ∀ x r, σ x = some r → σ' x = some r) (hs : Sub σ h n lo hi) : Sub σ' h n lo hi := sub_frame h n lo hi (fun x r hx _ => hf x r hx) hs

/-- The nodes from block B on. -/
def nw (σ : Nat → Option Nd) (B : Nat) : Nat → Option Nd := fun y => if B ≤ y then σ y else none
theorem nw_some {σ : Nat → Option Nd} {B y : Nat} {r : Nd} : nw σ B y = some r ↔ B ≤ y ∧ σ y = some r := by
  unfold nw
  split
  · rename_i h; simp [h]
  · rename_i h; simp [h]

end Go.Proofs.Qxb6001038a
