import Derived.Laws.CopyOwn
namespace Go.Proofs.Qxb6001038a
set_option linter.unusedVariables false

section
variable {α : Type}

theorem sp_shift (L vs : List α) (a k N : Nat) (hvs : vs.length = k) (ha : a ≤ N) (hN : N + k ≤ L.length) :
    (splice (splice L (a + k) ((L.take N).drop a)) a vs).take (N + k) = (L.take N).take a ++ (vs ++ (L.take N).drop a) := by
  have hX : ((L.take N).drop a).length = N - a := by simp; omega
  obtain ⟨X, hXe⟩ : ∃ X, X = (L.take N).drop a := ⟨_, rfl⟩
  rw [← hXe] at hX ⊢
  have e1 : splice L (a + k) X = L.take (a + k) ++ (X ++ L.drop (a + k + X.length)) := rfl
  have e2 : (splice L (a + k) X).take a = L.take a := by
    rw [e1, List.take_append_of_le_length (by simp; omega), List.take_take, Nat.min_eq_left (by omega)]
  have e3 : (splice L (a + k) X).drop (a + vs.length) = X ++ L.drop (a + k + X.length) := by
    rw [e1, hvs, List.drop_append, List.drop_eq_nil_of_le (by simp; omega), List.nil_append]
    have : a + k - (List.take (a + k) L).length = 0 := by simp; omega
    rw [this, List.drop_zero]
  unfold splice at e2 e3 ⊢
  rw [e2, e3]
  rw [List.take_take, Nat.min_eq_left ha]
  rw [← List.append_assoc vs X, ← List.append_assoc]
  rw [List.take_append_of_le_length (by simp [hX, hvs]; omega)]
  rw [List.take_of_length_le (by simp [hX, hvs]; omega)]

theorem sp_shift_len (L vs : List α) (a k N : Nat) (hvs : vs.length = k) (ha : a ≤ N) (hN : N + k ≤ L.length) :
    (splice (splice L (a + k) ((L.take N).drop a)) a vs).length = L.length := by
  have hX : ((L.take N).drop a).length = N - a := by simp; omega
  have h1 : (splice L (a + k) ((L.take N).drop a)).length = L.length := length_splice _ _ _ (by rw [hX]; omega)
  rw [length_splice _ _ _ (by rw [h1]; omega), h1]

theorem sp_grow (L Z vs : List α) (a k N : Nat) (hvs : vs.length = k) (ha : a ≤ N) (hL : L.length = N) (hZ : N + k - a ≤ Z.length) :
    (splice (splice (L.take a ++ Z) a vs) (a + k) (L.drop a)).take (N + k) = L.take a ++ (vs ++ L.drop a) := by
  have hT : (L.take a).length = a := by simp; omega
  have e1 : (splice (L.take a ++ Z) a vs) = L.take a ++ (vs ++ Z.drop k) := by
    unfold splice
    rw [List.take_append_of_le_length (by omega), List.take_of_length_le (by omega), List.drop_append, List.drop_eq_nil_of_le (by omega), List.nil_append, hT, hvs]
    congr 3; omega
  rw [e1]
  unfold splice
  have e2 : (L.take a ++ (vs ++ Z.drop k)).take (a + k) = L.take a ++ vs := by
    rw [← List.append_assoc, List.take_append_of_le_length (by simp [hvs]; omega), List.take_of_length_le (by simp [hvs]; omega)]
  rw [e2, List.append_assoc, ← List.append_assoc vs, ← List.append_assoc (L.take a)]
  rw [List.take_append_of_le_length (by simp [hvs]; omega), List.take_of_length_le (by simp [hvs]; omega)]

theorem sp_grow_len (L Z vs : List α) (a k N : Nat) (hvs : vs.length = k) (ha : a ≤ N) (hL : L.length = N) (hZ : N + k - a ≤ Z.length) :
    (splice (splice (L.take a ++ Z) a vs) (a + k) (L.drop a)).length = a + Z.length := by
  have h1 : (splice (L.take a ++ Z) a vs).length = a + Z.length := by rw [length_splice _ _ _ (by simp [hvs]; omega)]; simp; omega
  rw [length_splice _ _ _ (by rw [h1]; simp; omega), h1]

end
end Go.Proofs.Qxb6001038a
