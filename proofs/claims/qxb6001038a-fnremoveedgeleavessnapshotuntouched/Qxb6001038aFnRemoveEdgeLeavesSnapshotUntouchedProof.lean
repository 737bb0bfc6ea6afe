/- The proof of Rows.FnRemoveEdgeLeavesSnapshotUntouchedSaid: the frame is made after the given shells'; the walk is ours. -/
import Derived.Test.Qxb6001038aF5
import Derived.ProofKit
import Derived.OpenShut
import Derived.ShutString
import Derived.ChangeOld
import Derived.Deep.Grids
namespace Go.Proofs.Qxb6001038a.fnRemoveEdgeLeavesSnapshotUntouched
open Go.ChangeShapes Go.WideShapes Go.ChangeAt Go.RowKit
open Go.ChangeMaps (open_string shut_string)
set_option linter.unusedVariables false

theorem own : ownKnob Try.prog.godebug = none := by kernel_rfl
theorem laidOut : laidOutB Try.prog = true := by kernel_rfl

theorem walk (a0 b0 : Option Addr) (len0 cap0 lenb capb : Nat) (z0 : List Int) (a1 : Int) (a2 : Int) (w : World) (w0 : IsRow .u8 w a0 len0 cap0 z0) (w1 : (Lit.int .i64 a1).wf = true) (w2 : (Lit.int .i64 a2).wf = true) (wb : IsBools w b0 lenb capb) :
    Calls Try.prog 7 #[.slice a0 len0 cap0, .int .i64 a1, .int .i64 a2, .slice b0 lenb capb] w fun e w' => e = .returned (.bool true) ∧ Below w.heap.size w w' := by
  have hlen := row_len w0
  have hlb := bools_len wb
  have hb8 := bytes26 a0 b0 len0 cap0 lenb capb a1 a2 w hlen hlb
  by_cases c1 : len0 + lenb ≤ 1048576
  · rw [decide_eq_true c1] at hb8
    by_cases c2 : len0 ≤ 65536
    · by_cases c2b : lenb ≤ 65536
      · by_cases c3 : 0 ≤ a1 ∧ a1 ≤ 2
        · by_cases c4 : 16 ≤ a2 ∧ a2 ≤ 31
          · obtain ⟨h, rfl⟩ := Int.eq_ofNat_of_zero_le c3.1
            obtain ⟨ent, rfl⟩ := Int.eq_ofNat_of_zero_le (show 0 ≤ a2 by omega)
            exact fnEdgeSnap_main a0 b0 len0 cap0 lenb capb z0 h ent w w0 wb c2 c2b (by omega) (by omega) (by omega)
          · have hH := hide hb8
            clear hb8 w0 w1 w2 wb
            have d1 : ¬ ((65536 : Int) < (len0 : Int)) := by omega
            have d1b : ¬ ((65536 : Int) < (lenb : Int)) := by omega
            obtain ⟨d2, d3⟩ := c3
            rcases (show a2 < 16 ∨ (16 ≤ a2 ∧ 31 < a2) by omega) with d6 | ⟨d6, d7⟩
            all_goals
              clear c4
              go_enter Try.func7, Try.ntmps7
              go_wp2_with (go_at_call 26; refine hH.out.mono ?_; rintro e w' ⟨rfl, rfl⟩)
              go_ret
              exact ⟨rfl, Below.refl _ _⟩
        · have hH := hide hb8
          clear hb8 w0 w1 w2 wb
          have d1 : ¬ ((65536 : Int) < (len0 : Int)) := by omega
          have d1b : ¬ ((65536 : Int) < (lenb : Int)) := by omega
          rcases (show a1 < 0 ∨ (0 ≤ a1 ∧ 2 < a1) by omega) with d6 | ⟨d6, d7⟩
          all_goals
            clear c3
            go_enter Try.func7, Try.ntmps7
            go_wp2_with (go_at_call 26; refine hH.out.mono ?_; rintro e w' ⟨rfl, rfl⟩)
            go_ret
            exact ⟨rfl, Below.refl _ _⟩
      · have hH := hide hb8
        clear hb8 w0 w1 w2 wb
        have d1 : ¬ ((65536 : Int) < (len0 : Int)) := by omega
        have d1b : (65536 : Int) < (lenb : Int) := by omega
        go_enter Try.func7, Try.ntmps7
        go_wp2_with (go_at_call 26; refine hH.out.mono ?_; rintro e w' ⟨rfl, rfl⟩)
        go_ret
        exact ⟨rfl, Below.refl _ _⟩
    · have hH := hide hb8
      clear hb8 w0 w1 w2 wb
      have d1 : (65536 : Int) < (len0 : Int) := by omega
      go_enter Try.func7, Try.ntmps7
      go_wp2_with (go_at_call 26; refine hH.out.mono ?_; rintro e w' ⟨rfl, rfl⟩)
      go_ret
      exact ⟨rfl, Below.refl _ _⟩
  · rw [decide_eq_false c1] at hb8
    have hH := hide hb8
    clear hb8 w0 w1 w2 wb
    go_enter Try.func7, Try.ntmps7
    go_wp2_with (go_at_call 26; refine hH.out.mono ?_; rintro e w' ⟨rfl, rfl⟩)
    go_ret
    exact ⟨rfl, Below.refl _ _⟩

/-! ### THE ROW's STEP: WRITTEN OUT: LEAVE IT -/
set_option maxRecDepth 100000 in
theorem lifted (os : Os) (started : os.Started) (H : Type) (enc : TypeId × Value → H) :
    ReturnsInHanded {} Try.checked os 7 .any (Rows.fnRemoveEdgeLeavesSnapshotUntouchedSpec.pre6 enc Try.prog Try.f7 Rows.fnRemoveEdgeLeavesSnapshotUntouchedRow.domain false) (Rows.fnRemoveEdgeLeavesSnapshotUntouchedSpec.post enc Try.prog Try.f7 false true false false) := by
  refine returnsInHanded_of_change (C := Try.checked) own started (by kernel_rfl) Try.func7
    (ChangeSpec.witness6 (enc := enc) (C := Try.checked) false ⟨#[], #[.slice none 0 0, .int .i64 0, .int .i64 0, .slice none 0 0], []⟩ 8 (by kernel_rfl) (by kernel_rfl) (by kernel_rfl) (by kernel_rfl)) ?_
  intro W base args ds gs before hval0 hW hcnd _
  have hval : ∀ (j : Nat) t v, Try.f7.params[j]? = some t → args[j]? = some v → Value.okWide Try.prog W .any base t v := hval0
  have hW' := hW
  obtain ⟨p, q, hA0, hV, rfl, hfz, hnd⟩ := hW
  have hA : DataW.TrodAll enc Try.prog W 0 (fun _ => true) true Try.f7.params.toList args.toList ds p := hA0
  rw [Try.params7] at hA hval
  obtain ⟨v0, vs0, d0, ds0, p0, q0, hargs, rfl, rfl, h0, r0⟩ := trodAll_cons hA
  obtain ⟨v1, vs1, d1, ds1, p1, q1, rfl, rfl, rfl, h1, r1⟩ := trodAll_cons r0
  obtain ⟨v2, vs2, d2, ds2, p2, q2, rfl, rfl, rfl, h2, r2⟩ := trodAll_cons r1
  obtain ⟨v3, vs3, d3, ds3, p3, q3, rfl, rfl, rfl, h3, r3⟩ := trodAll_cons r2
  obtain ⟨rfl, rfl, rfl⟩ := trodAll_nil r3
  obtain rfl : args = #[v0, v1, v2, v3] := by cases args; simp_all
  obtain ⟨rfl, rfl⟩ := trodVars_none hV
  obtain ⟨a0, len0, cap0, rfl⟩ := okWide_slice Try.underlying22 (hval 0 22 v0 rfl rfl)
  have k0 := h0
  have lt0 : ∀ x ∈ p0, x.block < W.heap.size := by obtain ⟨m, hm⟩ := k0; exact DataW.trod_lt m _ _ _ hm
  obtain ⟨z0, w0⟩ : ∃ zs, IsRow .u8 W a0 len0 cap0 zs := by
    obtain ⟨fuel, hf⟩ := h0
    rcases open_ints Try.underlying22 Try.underlying5 (by kernel_rfl) hf with ⟨hcs, _⟩ | ⟨x, l, c, zs, hcs, _, hl, hm, hz, _, hcell, hwz⟩
    · simp [Value.cells] at hcs
      obtain ⟨rfl, rfl, rfl⟩ := hcs
      exact ⟨[], .inl ⟨rfl, rfl, rfl, rfl⟩⟩
    · simp [Value.cells] at hcs
      obtain ⟨rfl, rfl, rfl⟩ := hcs
      exact ⟨zs, .inr ⟨_, rfl, hl, hm, by simpa using hz, hcell, hwz⟩⟩
  obtain ⟨a1, rfl, rfl, rfl, w1⟩ := open_int Try.underlying3 (hval 1 3 v1 rfl rfl) h1
  obtain ⟨a2, rfl, rfl, rfl, w2⟩ := open_int Try.underlying3 (hval 2 3 v2 rfl rfl) h2
  obtain ⟨b0, lenb, capb, rfl⟩ := okWide_slice Try.underlying41 (hval 3 41 v3 rfl rfl)
  have k3 := h3
  have lt3 : ∀ x ∈ p3, x.block < W.heap.size := by obtain ⟨m, hm⟩ := k3; exact DataW.trod_lt m _ _ _ hm
  have w3 : IsBools W b0 lenb capb := by
    obtain ⟨fuel, hf⟩ := h3
    rcases Go.Deep.open_bools Try.underlying41 Try.underlying4 (by kernel_rfl) hf with ⟨hcs, _⟩ | ⟨x, l, c, V, hcs, _, hl, hm, _, hcell⟩
    · simp [Value.cells] at hcs
      obtain ⟨rfl, rfl, rfl⟩ := hcs
      exact .inl ⟨rfl, rfl, rfl⟩
    · simp [Value.cells] at hcs
      obtain ⟨rfl, rfl, rfl⟩ := hcs
      exact .inr ⟨_, V, rfl, hl, hm, hcell⟩
  clear hA0 hval0
  refine (walk a0 b0 len0 cap0 lenb capb z0 a1 a2 W w0 w1 w2 w3).mono fun e W' ⟨he, bel⟩ => ?_
  subst he
  exact ⟨_, rfl, _, _, _, [], _, [], hW', trodAll_mk1 (shut_bool Try.underlying4 _), (trodAll_cons_mk (Below.trod laidOut (by kernel_rfl) (of_decide_eq_true (by kernel_rfl)) k0 bel lt0) (trodAll_cons_mk (shut_int Try.underlying3 w1) (trodAll_cons_mk (shut_int Try.underlying3 w2) (trodAll_cons_mk (Below.trod laidOut (by kernel_rfl) (of_decide_eq_true (by kernel_rfl)) k3 bel lt3) trodAll_mk0)))), rfl, bel.frame _, fun h => by cases h⟩

theorem over : Rows.fnRemoveEdgeLeavesSnapshotUntouchedRow.holds Try.pinned (OpenSpec.ofChange Rows.fnRemoveEdgeLeavesSnapshotUntouchedSpec) :=
  OpenClaim.holds_of_wide 7 Try.f7 rfl rfl rfl rfl rfl rfl rfl ⟨rfl, rfl, rfl, rfl, rfl⟩ rfl rfl rfl rfl rfl (by kernel_rfl) Try.func7 (by kernel_rfl)
    (of_decide_eq_true (by kernel_rfl)) (by unfold Func.isWrapper; first | (rw [if_pos (by decide +kernel)]; kernel_rfl) | (rw [if_neg (by decide +kernel)]; exact ⟨rfl, rfl⟩))
    (fun os started H enc _ => lifted os started H enc)

/-- ████ THE STATEMENT ████ -/
theorem proved : Rows.FnRemoveEdgeLeavesSnapshotUntouchedSaid := over
#print axioms proved
end Go.Proofs.Qxb6001038a.fnRemoveEdgeLeavesSnapshotUntouched
