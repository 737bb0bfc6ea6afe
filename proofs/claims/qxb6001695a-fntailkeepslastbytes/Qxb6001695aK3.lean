import Derived.Test.Qxb6001695aM4
namespace Go.Proofs.Qxb6001695a
open Go.RowKit
set_option linter.unusedVariables false
set_option linter.unusedSimpArgs false
attribute [local go_sem ↓] Go.wp_at_zero Go.wp_at_succ

set_option maxHeartbeats 4000000 in
set_option maxRecDepth 100000 in
theorem match_big (T g G N TL : Nat) (al : List UInt8) (cur : Array Value) (w : World) (hT : TailP w T g (tl al) N) (hN : al.length = N) (hG : w.heap[G]? = some (.cells cur 5 (0, 0))) (hcur : cur.toList.take N = encB al) (hNb : N ≤ 1048576) (hbig : 4096 < N) :
    Calls Try.prog 10 #[.pointer (some ⟨T, 0, none⟩), .slice (some ⟨G, 0, none⟩) N TL] w fun e w' => e = .returned (.bool true) ∧ w'.heap = w.heap ∧ Below w.heap.size w w' := by
  obtain ⟨o, ho⟩ : ∃ o, N = o + 4096 := ⟨N - 4096, by omega⟩
  have hdl : (tl al).length = 4096 := by rw [tl_len, hN]; omega
  have hD : ∀ i, i < 4096 → (tl al)[i]? = al[o + i]? := fun i hi => by unfold tl; rw [List.getElem?_drop, hN, show N - 4096 = o by omega]
  subst ho
  have t0 : (4096 : Int) < (o : Int) + 4096 := by omega
  have hw1 : IntKind.i64.wrap ((o : Int) + 4096 - 4096) = o := by rw [show ((o : Int) + 4096 - 4096) = o by omega, IntKind.wrap_i64]; omega
  have hz1 : ((4096 : Int) != (4096 : Int)) = false := by decide
  obtain ⟨k1, k2, _⟩ := T_cells hT.blk
  rw [hdl] at k1
  obtain ⟨cc, c1, c2, c3⟩ := hT.row
  have hcells : Hid (∀ i, i < 4096 → ∃ z : Int, w.cell? ⟨g, i, none⟩ = some (.int .u8 z) ∧ w.cell? ⟨G, o + i, none⟩ = some (.int .u8 z)) := fun i hi => by
    have hal : o + i < al.length := by omega
    obtain ⟨u, hu⟩ : ∃ u, al[o + i]? = some u := ⟨al[o + i], List.getElem?_eq_getElem hal⟩
    refine ⟨(u.toNat : Int), ?_, ?_⟩
    · have h1 : (encB (tl al))[i]? = some (.int .u8 (u.toNat : Int)) := by simp only [encB, List.getElem?_map]; rw [hD i hi, hu]; rfl
      rw [cell_of_row w g i cc 5 _ c1, ← h1, ← c3, List.getElem?_take, if_pos (by omega)]
      simp
    · have h1 : (encB al)[o + i]? = some (.int .u8 (u.toNat : Int)) := by simp only [encB, List.getElem?_map]; rw [hu]; rfl
      rw [cell_of_row w G _ cur 5 _ hG, ← h1, ← hcur, List.getElem?_take, if_pos (by omega)]
      simp
  have k1H := hide k1; have k2H := hide k2
  have hz7 : (((o : Int) + 4096) == ((o : Int) + 4096)) = true := by simp
  clear hT hN hG hcur hdl hD c1 c2 c3 k2
  go_enter Try.func10, Try.ntmps10
  go_wp2_with (first
    | (go_at_call 12; refine (tbytes T _ _ k1H.out).mono ?_; rintro e w ⟨rfl, rfl⟩))
  clear k1
  go_loopw [8] (fun j wr => ∃ i : Nat, i ≤ 4096 ∧ j = .int .i64 i ∧ Hid (Below w.heap.size w wr ∧ wr.heap = w.heap)) (fun j _ => 4096 - (intOf j).toNat)
  case atStart => exact ⟨0, by omega, rfl, hide ⟨Below.refl _ _, rfl⟩⟩
  case round =>
    obtain ⟨i, hi, rfl, hJ⟩ := hrel
    by_cases hil : i < 4096
    · obtain ⟨z, z1, z2⟩ := hcells.out i hil
      have d1 : wr.cell? ⟨g, i, none⟩ = some (.int .u8 z) := (World.cell?_of_block (a := ⟨g, i, none⟩) (by rw [hJ.out.2])).trans z1
      have d2 : wr.cell? ⟨G, o + i, none⟩ = some (.int .u8 z) := (World.cell?_of_block (a := ⟨G, o + i, none⟩) (by rw [hJ.out.2])).trans z2
      have hb1 : (i : Int) < 4096 := by omega
      have hb2 : (o : Int) + (i : Int) < (o : Int) + 4096 := by omega
      have hw2 : IntKind.i64.wrap ((o : Int) + (i : Int)) = (o : Int) + (i : Int) := by rw [IntKind.wrap_i64]; omega
      have hzz : (z != z) = false := by simp
      clear z1 z2
      go_upto_region 11 with fail
      go_quiet (fail)
      go_wp2_with fail
      go_roundw
      case rel => exact ⟨i + 1, by omega, by go_num, hide ⟨hJ.out.1.trans ⟨rfl, rfl, rfl, Nat.le_refl _, fun _ _ => rfl⟩, hJ.out.2⟩⟩
      case measure => simp [intOf]; omega
    · obtain rfl : i = 4096 := by omega
      have d2 : wr.cell? ⟨T, 1, none⟩ = some (.int .i64 (((o + 4096) : Nat) : Int)) := (World.cell?_of_block (a := ⟨T, 1, none⟩) (by rw [hJ.out.2])).trans k2H.out
      go_wp2_with (first
        | (go_at_call 13; refine (twritten T _ _ d2).mono ?_; rintro e wr ⟨rfl, rfl⟩))
      go_ret
      exact ⟨rfl, hJ.out.2, hJ.out.1⟩

set_option maxHeartbeats 4000000 in
set_option maxRecDepth 100000 in
theorem match_small (T g G N TL : Nat) (al : List UInt8) (cur : Array Value) (w : World) (hT : TailP w T g (tl al) N) (hN : al.length = N) (hG : w.heap[G]? = some (.cells cur 5 (0, 0))) (hcur : cur.toList.take N = encB al) (hNb : N ≤ 1048576) (hbig : N ≤ 4096) :
    Calls Try.prog 10 #[.pointer (some ⟨T, 0, none⟩), .slice (some ⟨G, 0, none⟩) N TL] w fun e w' => e = .returned (.bool true) ∧ w'.heap = w.heap ∧ Below w.heap.size w w' := by
  have hdl : (tl al).length = N := by rw [tl_len, hN]; omega
  have hD : ∀ i, i < N → (tl al)[i]? = al[i]? := fun i hi => by unfold tl; rw [hN, show N - 4096 = 0 by omega, List.drop_zero]
  have t0 : ¬ ((4096 : Int) < (N : Int)) := by omega
  have hw1 : IntKind.i64.wrap ((N : Int) - (N : Int)) = 0 := by rw [Int.sub_self, IntKind.wrap_i64]; omega
  have hz1 : ((N : Int) != (N : Int)) = false := by simp
  obtain ⟨k1, k2, _⟩ := T_cells hT.blk
  rw [hdl] at k1
  obtain ⟨cc, c1, c2, c3⟩ := hT.row
  have hcells : Hid (∀ i, i < N → ∃ z : Int, w.cell? ⟨g, i, none⟩ = some (.int .u8 z) ∧ w.cell? ⟨G, i, none⟩ = some (.int .u8 z)) := fun i hi => by
    have hal : i < al.length := by omega
    obtain ⟨u, hu⟩ : ∃ u, al[i]? = some u := ⟨al[i], List.getElem?_eq_getElem hal⟩
    refine ⟨(u.toNat : Int), ?_, ?_⟩
    · have h1 : (encB (tl al))[i]? = some (.int .u8 (u.toNat : Int)) := by simp only [encB, List.getElem?_map]; rw [hD i hi, hu]; rfl
      rw [cell_of_row w g i cc 5 _ c1, ← h1, ← c3, List.getElem?_take, if_pos (by omega)]
      simp
    · have h1 : (encB al)[i]? = some (.int .u8 (u.toNat : Int)) := by simp only [encB, List.getElem?_map]; rw [hu]; rfl
      rw [cell_of_row w G _ cur 5 _ hG, ← h1, ← hcur, List.getElem?_take, if_pos (by omega)]
      simp
  have k1H := hide k1; have k2H := hide k2
  have hz7 : ((N : Int) == (N : Int)) = true := by simp
  clear hT hN hG hcur hdl hD c1 c2 c3 k2
  go_enter Try.func10, Try.ntmps10
  go_wp2_with (first
    | (go_at_call 12; refine (tbytes T _ _ k1H.out).mono ?_; rintro e w ⟨rfl, rfl⟩))
  clear k1
  go_loopw [8] (fun j wr => ∃ i : Nat, i ≤ N ∧ j = .int .i64 i ∧ Hid (Below w.heap.size w wr ∧ wr.heap = w.heap)) (fun j _ => N - (intOf j).toNat)
  case atStart => exact ⟨0, by omega, rfl, hide ⟨Below.refl _ _, rfl⟩⟩
  case round =>
    obtain ⟨i, hi, rfl, hJ⟩ := hrel
    by_cases hil : i < N
    · obtain ⟨z, z1, z2⟩ := hcells.out i hil
      have d1 : wr.cell? ⟨g, i, none⟩ = some (.int .u8 z) := (World.cell?_of_block (a := ⟨g, i, none⟩) (by rw [hJ.out.2])).trans z1
      have d2 : wr.cell? ⟨G, i, none⟩ = some (.int .u8 z) := (World.cell?_of_block (a := ⟨G, i, none⟩) (by rw [hJ.out.2])).trans z2
      have hb1 : (i : Int) < (N : Int) := by omega
      skip
      have hw2 : IntKind.i64.wrap (i : Int) = (i : Int) := by rw [IntKind.wrap_i64]; omega
      have hzz : (z != z) = false := by simp
      clear z1 z2
      go_upto_region 11 with fail
      go_quiet (fail)
      go_wp2_with fail
      go_roundw
      case rel => exact ⟨i + 1, by omega, by go_num, hide ⟨hJ.out.1.trans ⟨rfl, rfl, rfl, Nat.le_refl _, fun _ _ => rfl⟩, hJ.out.2⟩⟩
      case measure => simp [intOf]; omega
    · obtain rfl : N = i := by omega
      have d2 : wr.cell? ⟨T, 1, none⟩ = some (.int .i64 ((N : Nat) : Int)) := (World.cell?_of_block (a := ⟨T, 1, none⟩) (by rw [hJ.out.2])).trans k2H.out
      go_wp2_with (first
        | (go_at_call 13; refine (twritten T _ _ d2).mono ?_; rintro e wr ⟨rfl, rfl⟩))
      go_ret
      exact ⟨rfl, hJ.out.2, hJ.out.1⟩

theorem match_any (T g G N TL : Nat) (al : List UInt8) (cur : Array Value) (w : World) (hT : TailP w T g (tl al) N) (hN : al.length = N) (hG : w.heap[G]? = some (.cells cur 5 (0, 0))) (hcur : cur.toList.take N = encB al) (hNb : N ≤ 1048576) :
    Calls Try.prog 10 #[.pointer (some ⟨T, 0, none⟩), .slice (some ⟨G, 0, none⟩) N TL] w fun e w' => e = .returned (.bool true) ∧ w'.heap = w.heap ∧ Below w.heap.size w w' := by
  by_cases h : 4096 < N
  · exact match_big T g G N TL al cur w hT hN hG hcur hNb h
  · exact match_small T g G N TL al cur w hT hN hG hcur hNb (by omega)

end Go.Proofs.Qxb6001695a
