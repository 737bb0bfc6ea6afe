import Derived.Test.Qxb6001695aL1
import Derived.Handy
import Derived.Lib.SliceRun
import Derived.Laws.OwnMore
namespace Go.Proofs.Qxb6001695a
open Go.RowKit
set_option linter.unusedVariables false
set_option linter.unusedSimpArgs false

/-- The first k strings' bytes, counted. -/
def tot (S : Nat → ByteArray) : Nat → Nat
  | 0 => 0
  | k + 1 => tot S k + (S k).size
/-- .. and themselves. -/
def cat (S : Nat → ByteArray) : Nat → List UInt8
  | 0 => []
  | k + 1 => cat S k ++ (S k).data.toList
theorem cat_len (S : Nat → ByteArray) (k : Nat) : (cat S k).length = tot S k := by
  induction k with
  | zero => rfl
  | succ k ih => simp [cat, tot, ih]
theorem tot_mono (S : Nat → ByteArray) (a b : Nat) (h : a ≤ b) : tot S a ≤ tot S b := by
  induction b with
  | zero => obtain rfl : a = 0 := by omega
            exact Nat.le_refl _
  | succ b ih =>
    by_cases e : a = b + 1
    · rw [e]; exact Nat.le_refl _
    · have := ih (by omega); simp only [tot]; omega

/-- What came in: a slice of strings. -/
def IsStrs (w : World) (a : Option Addr) (len cap : Nat) (S : Nat → ByteArray) : Prop :=
  (a = none ∧ len = 0 ∧ cap = 0) ∨ ∃ x : Addr, a = some x ∧ len ≤ cap ∧ cap ≤ maxLen ∧ ∀ i, i < len → w.cell? (x.add i) = some (.string (S i))
theorem strs_len {w : World} {a : Option Addr} {len cap : Nat} {S : Nat → ByteArray} (h : IsStrs w a len cap S) : len ≤ 9223372036854775807 := by
  rcases h with ⟨_, rfl, _⟩ | ⟨x, _, h1, h2, _⟩
  · omega
  · unfold maxLen at h2; omega

/-- What the bound's function says. -/
def B5 (S : Nat → ByteArray) (len : Nat) (w : World) (e : Ending) (w' : World) : Prop := ∃ b, e = .returned (.bool b) ∧ w' = w ∧ (b = true → len + tot S len ≤ 1048576)
theorem B5.mk {S : Nat → ByteArray} {len : Nat} {w w' : World} {e : Ending} (b : Bool) (h1 : e = .returned (.bool b)) (h2 : w' = w) (h3 : b = true → len + tot S len ≤ 1048576) : B5 S len w e w' := ⟨b, h1, h2, h3⟩

set_option maxHeartbeats 1000000 in
theorem bytes5r (x : Addr) (len cap : Nat) (S : Nat → ByteArray) (w : World) (hl : len ≤ 9223372036854775807) (hc : ∀ i, i < len → w.cell? (x.add i) = some (.string (S i))) :
    Calls Try.prog 5 #[.slice (some x) len cap] w (B5 S len w) := by
  by_cases h : len ≤ 1048576
  · have h1 : ¬ ((1048576 : Int) < (len : Int)) := by omega
    have hcH := hide hc
    clear hc
    go_enter Try.func5, Try.ntmps5
    go_wp2_with fail
    go_loopw [3, 4] (fun n j wr => ∃ k : Nat, k ≤ len ∧ n = .int .i64 ((len + tot S k : Nat) : Int) ∧ len + tot S k ≤ 1048576 ∧ j = .int .i64 k ∧ wr = w) (fun n j _ => len - (intOf j).toNat)
    case atStart => exact ⟨0, by omega, by simp [tot], by simp [tot]; omega, rfl, rfl⟩
    case round =>
      obtain ⟨k, hk, rfl, hks, rfl, rfl⟩ := hrel
      by_cases hlt : k < len
      · have c := hcH.out k hlt
        obtain ⟨N, hN⟩ : ∃ N, N = len + tot S k := ⟨_, rfl⟩
        rw [← hN] at hks ⊢
        have hNH := hide hN
        clear hN
        by_cases hz1 : (1048576 : Int) < ((S k).size : Int)
        · go_wp2_with fail
          go_ret
          exact B5.mk false rfl rfl (fun h => by cases h)
        · have hw : IntKind.i64.wrap ((N : Int) + ((S k).size : Int)) = (N : Int) + ((S k).size : Int) := by rw [IntKind.wrap_i64]; omega
          by_cases hz2 : (1048576 : Int) < (N : Int) + ((S k).size : Int)
          · go_wp2_with fail
            go_ret
            exact B5.mk false rfl rfl (fun h => by cases h)
          · go_wp2_with fail
            go_roundw
            case rel =>
              have hN := hNH.out
              have e : len + tot S (k + 1) = N + (S k).size := by simp only [tot]; omega
              exact ⟨k + 1, by omega, by rw [e]; push_cast; rfl, by rw [e]; omega, by go_num, by first | rfl | trivial⟩
            case measure => simp [intOf]; omega
      · obtain rfl : k = len := by omega
        go_wp2_with fail
        go_ret
        exact B5.mk true rfl rfl (fun _ => hks)
  · have h1 : ((1048576 : Int) < (len : Int)) := by omega
    clear hc
    go_enter Try.func5, Try.ntmps5
    go_wp2_with fail
    go_ret
    exact B5.mk false rfl rfl (fun h => by cases h)
theorem bytes5n (S : Nat → ByteArray) (w : World) : Calls Try.prog 5 #[.slice none 0 0] w (B5 S 0 w) := by
  go_enter Try.func5, Try.ntmps5
  go_wp2_with fail
  refine wp_loop_rounds 1 ?_
  rw [rounds_succ]
  go_wp2_with fail
  go_ret
  exact B5.mk true rfl rfl (fun _ => by simp [tot])
theorem bytes5 (a : Option Addr) (len cap : Nat) (S : Nat → ByteArray) (w : World) (h : IsStrs w a len cap S) :
    Calls Try.prog 5 #[.slice a len cap] w (B5 S len w) := by
  have hl := strs_len h
  rcases h with ⟨rfl, rfl, rfl⟩ | ⟨x, rfl, h1, h2, h3⟩
  · exact bytes5n S w
  · exact bytes5r x len cap S w hl h3

set_option maxHeartbeats 1000000 in
theorem bytes11r (x : Addr) (len cap : Nat) (S : Nat → ByteArray) (w : World) (hl : len ≤ 9223372036854775807) (hc : ∀ i, i < len → w.cell? (x.add i) = some (.string (S i))) :
    Calls Try.prog 11 #[.slice (some x) len cap] w (B5 S len w) := by
  by_cases h : len ≤ 1048576
  · have h1 : ¬ ((1048576 : Int) < (len : Int)) := by omega
    have hcH := hide hc
    clear hc
    go_enter Try.func11, Try.ntmps11
    go_wp2_with fail
    go_loopw [3, 4] (fun n j wr => ∃ k : Nat, k ≤ len ∧ n = .int .i64 ((len + tot S k : Nat) : Int) ∧ len + tot S k ≤ 1048576 ∧ j = .int .i64 k ∧ wr = w) (fun n j _ => len - (intOf j).toNat)
    case atStart => exact ⟨0, by omega, by simp [tot], by simp [tot]; omega, rfl, rfl⟩
    case round =>
      obtain ⟨k, hk, rfl, hks, rfl, rfl⟩ := hrel
      by_cases hlt : k < len
      · have c := hcH.out k hlt
        obtain ⟨N, hN⟩ : ∃ N, N = len + tot S k := ⟨_, rfl⟩
        rw [← hN] at hks ⊢
        have hNH := hide hN
        clear hN
        by_cases hz1 : (1048576 : Int) < ((S k).size : Int)
        · go_wp2_with fail
          go_ret
          exact B5.mk false rfl rfl (fun h => by cases h)
        · have hw : IntKind.i64.wrap ((N : Int) + ((S k).size : Int)) = (N : Int) + ((S k).size : Int) := by rw [IntKind.wrap_i64]; omega
          by_cases hz2 : (1048576 : Int) < (N : Int) + ((S k).size : Int)
          · go_wp2_with fail
            go_ret
            exact B5.mk false rfl rfl (fun h => by cases h)
          · go_wp2_with fail
            go_roundw
            case rel =>
              have hN := hNH.out
              have e : len + tot S (k + 1) = N + (S k).size := by simp only [tot]; omega
              exact ⟨k + 1, by omega, by rw [e]; push_cast; rfl, by rw [e]; omega, by go_num, by first | rfl | trivial⟩
            case measure => simp [intOf]; omega
      · obtain rfl : k = len := by omega
        go_wp2_with fail
        go_ret
        exact B5.mk true rfl rfl (fun _ => hks)
  · have h1 : ((1048576 : Int) < (len : Int)) := by omega
    clear hc
    go_enter Try.func11, Try.ntmps11
    go_wp2_with fail
    go_ret
    exact B5.mk false rfl rfl (fun h => by cases h)
theorem bytes11n (S : Nat → ByteArray) (w : World) : Calls Try.prog 11 #[.slice none 0 0] w (B5 S 0 w) := by
  go_enter Try.func11, Try.ntmps11
  go_wp2_with fail
  refine wp_loop_rounds 1 ?_
  rw [rounds_succ]
  go_wp2_with fail
  go_ret
  exact B5.mk true rfl rfl (fun _ => by simp [tot])
theorem bytes11 (a : Option Addr) (len cap : Nat) (S : Nat → ByteArray) (w : World) (h : IsStrs w a len cap S) :
    Calls Try.prog 11 #[.slice a len cap] w (B5 S len w) := by
  have hl := strs_len h
  rcases h with ⟨rfl, rfl, rfl⟩ | ⟨x, rfl, h1, h2, h3⟩
  · exact bytes11n S w
  · exact bytes11r x len cap S w hl h3

set_option maxHeartbeats 1000000 in
theorem csize_r (x : Addr) (len cap : Nat) (S : Nat → ByteArray) (w : World) (hl : len ≤ 1048576) (hc : ∀ i, i < len → w.cell? (x.add i) = some (.string (S i))) :
    Calls Try.prog 6 #[.slice (some x) len cap] w fun e w' => ∃ n : Int, e = .returned (.int .i64 n) ∧ w' = w := by
  have hcH := hide hc
  clear hc
  go_enter Try.func6, Try.ntmps6
  go_wp2_with fail
  go_loopw [3, 4] (fun n j wr => ∃ k : Nat, k ≤ len ∧ (∃ z : Int, n = .int .i64 z) ∧ j = .int .i64 k ∧ wr = w) (fun n j _ => len - (intOf j).toNat)
  case atStart => exact ⟨0, by omega, ⟨_, rfl⟩, rfl, rfl⟩
  case round =>
    obtain ⟨k, hk, ⟨z, rfl⟩, rfl, rfl⟩ := hrel
    by_cases hlt : k < len
    · have c := hcH.out k hlt
      obtain ⟨y, hy⟩ : ∃ y, IntKind.i64.wrap (z + ((S k).size : Int)) = y := ⟨_, rfl⟩
      by_cases hz2 : (1048576 : Int) < y
      · go_wp2_with fail
        go_ret
        exact ⟨_, rfl, rfl⟩
      · go_wp2_with fail
        go_roundw
        case rel => exact ⟨k + 1, by omega, ⟨_, rfl⟩, by go_num, by first | rfl | trivial⟩
        case measure => simp [intOf]; omega
    · obtain rfl : k = len := by omega
      go_wp2_with fail
      go_ret
      exact ⟨_, rfl, rfl⟩
theorem csize_n (w : World) : Calls Try.prog 6 #[.slice none 0 0] w fun e w' => ∃ n : Int, e = .returned (.int .i64 n) ∧ w' = w := by
  go_enter Try.func6, Try.ntmps6
  go_wp2_with fail
  refine wp_loop_rounds 1 ?_
  rw [rounds_succ]
  go_wp2_with fail
  go_ret
  exact ⟨_, rfl, rfl⟩
theorem csize (a : Option Addr) (len cap : Nat) (S : Nat → ByteArray) (w : World) (h : IsStrs w a len cap S) (hl : len ≤ 1048576) :
    Calls Try.prog 6 #[.slice a len cap] w fun e w' => ∃ n : Int, e = .returned (.int .i64 n) ∧ w' = w := by
  rcases h with ⟨rfl, rfl, rfl⟩ | ⟨x, rfl, h1, h2, h3⟩
  · exact csize_n w
  · exact csize_r x len cap S w hl h3

set_option maxHeartbeats 1000000 in
theorem total_r (x : Addr) (len cap : Nat) (S : Nat → ByteArray) (w : World) (hl : len + tot S len ≤ 1048576) (hc : ∀ i, i < len → w.cell? (x.add i) = some (.string (S i))) :
    Calls Try.prog 8 #[.slice (some x) len cap] w fun e w' => e = .returned (.int .i64 (tot S len)) ∧ w' = w := by
  have hcH := hide hc
  clear hc
  go_enter Try.func8, Try.ntmps8
  go_wp2_with fail
  go_loopw [3, 4] (fun n j wr => ∃ k : Nat, k ≤ len ∧ n = .int .i64 (tot S k) ∧ j = .int .i64 k ∧ wr = w) (fun n j _ => len - (intOf j).toNat)
  case atStart => exact ⟨0, by omega, rfl, rfl, rfl⟩
  case round =>
    obtain ⟨k, hk, rfl, rfl, rfl⟩ := hrel
    by_cases hlt : k < len
    · have c := hcH.out k hlt
      have hm := tot_mono S (k + 1) len (by omega)
      have e : tot S (k + 1) = tot S k + (S k).size := rfl
      obtain ⟨N, hN⟩ : ∃ N, N = tot S k := ⟨_, rfl⟩
      rw [← hN] at e ⊢
      have hw : IntKind.i64.wrap ((N : Int) + ((S k).size : Int)) = (N : Int) + ((S k).size : Int) := by rw [IntKind.wrap_i64]; omega
      have eH := hide e
      have hln : len ≤ 1048576 := by omega
      clear e hN hm hl
      go_wp2_with fail
      go_roundw
      case rel => exact ⟨k + 1, by omega, by rw [eH.out]; push_cast; rfl, by go_num, by first | rfl | trivial⟩
      case measure => simp [intOf]; omega
    · obtain rfl : k = len := by omega
      go_wp2_with fail
      go_ret
      exact ⟨rfl, rfl⟩
theorem total_n (S : Nat → ByteArray) (w : World) : Calls Try.prog 8 #[.slice none 0 0] w fun e w' => e = .returned (.int .i64 (tot S 0)) ∧ w' = w := by
  go_enter Try.func8, Try.ntmps8
  go_wp2_with fail
  refine wp_loop_rounds 1 ?_
  rw [rounds_succ]
  go_wp2_with fail
  go_ret
  exact ⟨rfl, rfl⟩

theorem tbytes (T : Nat) (v : Value) (w : World) (h : w.cell? ⟨T, 0, none⟩ = some v) : Calls Try.prog 12 #[.pointer (some ⟨T, 0, none⟩)] w fun e w' => e = .returned v ∧ w' = w := by
  go_enter Try.func12, Try.ntmps12
  go_wp2_with fail
  go_ret
  exact ⟨rfl, rfl⟩
theorem twritten (T : Nat) (v : Value) (w : World) (h : w.cell? ⟨T, 1, none⟩ = some v) : Calls Try.prog 13 #[.pointer (some ⟨T, 0, none⟩)] w fun e w' => e = .returned v ∧ w' = w := by
  go_enter Try.func13, Try.ntmps13
  go_wp2_with fail
  go_ret
  exact ⟨rfl, rfl⟩

end Go.Proofs.Qxb6001695a
