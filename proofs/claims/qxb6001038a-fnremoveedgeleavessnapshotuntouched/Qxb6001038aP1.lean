import Derived.Test.Qxb6001038aT1
namespace Go.Proofs.Qxb6001038a
open Go.RowKit
set_option linter.unusedVariables false

theorem dg_nat (x : Int) : (dg x).toNat = (48 + x % 10).toNat := by
  unfold dg
  rw [UInt8.toNat_ofNat']
  have := Int.emod_nonneg x (show (10 : Int) ≠ 0 by decide)
  have := Int.emod_lt_of_pos x (show (0 : Int) < 10 by decide)
  omega
theorem dg_lt (x y : Int) : dg x < dg y ↔ x % 10 < y % 10 := by
  rw [UInt8.lt_iff_toNat_lt, dg_nat, dg_nat]
  have := Int.emod_nonneg x (show (10 : Int) ≠ 0 by decide)
  have := Int.emod_nonneg y (show (10 : Int) ≠ 0 by decide)
  omega
theorem dg_eq (x y : Int) : dg x = dg y ↔ x % 10 = y % 10 := by
  rw [← UInt8.toNat_inj, dg_nat, dg_nat]
  have := Int.emod_nonneg x (show (10 : Int) ≠ 0 by decide)
  have := Int.emod_nonneg y (show (10 : Int) ≠ 0 by decide)
  omega
theorem p6_list (k : Int) : (p6 k).toList = [dg (k / 10 / 10 / 10 / 10 / 10), dg (k / 10 / 10 / 10 / 10), dg (k / 10 / 10 / 10), dg (k / 10 / 10), dg (k / 10), dg k] := by
  unfold p6
  exact ByteArray.toList_mk _
theorem less6 (a b : Int) (ha : 0 ≤ a) (ha' : a < 1000000) (hb : 0 ≤ b) (hb' : b < 1000000) : Op.bytesLess (p6 a).toList (p6 b).toList = decide (a < b) := by
  rw [p6_list, p6_list, Bool.eq_iff_iff, decide_eq_true_iff]
  simp only [Op.bytesLess, Bool.or_eq_true, Bool.and_eq_true, decide_eq_true_iff, beq_iff_eq, dg_lt, dg_eq, Bool.false_eq_true, and_false, or_false]
  omega
theorem le6 (a b : Nat) (h : a ≤ b) (hb : b < 1000000) : (Op.bytesLess (p6 a).toList (p6 b).toList || (p6 a).toList == (p6 b).toList) = true := by
  rw [less6 a b (by omega) (by omega) (by omega) (by omega)]
  by_cases e : a = b
  · simp [e]
  · have : (a : Int) < b := by omega
    simp [this]
theorem ge6 (a b : Nat) (h : b ≤ a) (ha : a < 1000000) : Op.bytesLess (p6 a).toList (p6 b).toList = false := by
  rw [less6 a b (by omega) (by omega) (by omega) (by omega)]
  simp
  omega
end Go.Proofs.Qxb6001038a
