/- The proof of Rows.FnStepRefusedOrAppliedNeverBothSaid: the frame is made after the guide's shells; the walk is ours. -/
import Derived.Test.Qxb6600422aM1
import Derived.ProofKit
import Derived.OpenShut
import Derived.ShutString
import Derived.ChangeOld
import Derived.ChangeSlices
import Derived.Deep.Strs
namespace Go.Proofs.Qxb6600422a.fnStepRefusedOrAppliedNeverBoth
open Go.ChangeShapes Go.WideShapes Go.ChangeAt Go.RowKit
open Go.ChangeMaps (open_string shut_string)
set_option linter.unusedVariables false
set_option linter.unusedSimpArgs false

theorem own : ownKnob Try.prog.godebug = none := by kernel_rfl
theorem laidOut : laidOutB Try.prog = true := by kernel_rfl

theorem c4 : Try.prog.cellsOf 4 = 1 := by kernel_rfl
theorem c9 : Try.prog.cellsOf 9 = 1 := by kernel_rfl
theorem c22 : Try.prog.cellsOf 22 = 1 := by kernel_rfl
theorem c25 : Try.prog.cellsOf 25 = 1 := by kernel_rfl
theorem c24 : Try.prog.cellsOf 24 = 3 := by kernel_rfl
theorem c27 : Try.prog.cellsOf 27 = 6 := by kernel_rfl

section
variable {H : Type} {enc : TypeId × Value → H} {W : World} {r : Reach} {b0 base : Nat} {held : Bool} {v : Value} {d : DataW H} {ps : List MemPlace}
/-- A key's state, opened. -/
theorem open24 (hval : Value.okWide Try.prog W r b0 24 v) (hd : DataW.Trod enc Try.prog W base (fun _ => true) held 24 v d ps) : ∃ (set : Bool) (val : ByteArray) (sv : Int), v = .agg #[.bool set, .string val, .int .u64 sv] := by
  obtain ⟨cs, rfl, hsz⟩ := okWide_struct Try.underlying24 hval
  obtain ⟨fuel, hf⟩ := hd
  obtain ⟨ys, m, _, hx, _, hl, hff⟩ := DataW.trod_struct Try.underlying24 hf
  rw [c24] at hsz
  obtain ⟨l⟩ := cs
  match l, hsz, ys, hl with
  | [k0, k1, k2], _, [y0, y1, y2], _ =>
    have h0 := hff 0 _ rfl
    have h1 := hff 1 _ rfl
    have h2 := hff 2 _ rfl
    simp [Value.cells, c4, c9, c22] at h0 h1 h2
    obtain ⟨b, e0, _⟩ := DataW.trod_bool Try.underlying4 h0
    obtain ⟨s, e1, _⟩ := DataW.trod_string Try.underlying9 h1
    obtain ⟨n, e2, _⟩ := DataW.trod_int Try.underlying22 h2
    simp at e0 e1 e2
    subst e0 e1 e2
    exact ⟨b, s, n, rfl⟩
theorem isU_of {fuel : Nat} {k : Value} {x : DataW H × List MemPlace} (h : DataW.trod enc Try.prog W base (fun _ => true) held fuel 25 [k] = some x) : ∃ p l c V, k = .slice p l c ∧ IsU W.heap.size W p l c V := by
  rcases open_ints Try.underlying25 Try.underlying22 c22 h with ⟨hcs, _⟩ | ⟨a, len, cap, zs, hcs, _, hl, _, hz, _, hcell, _⟩
  · simp at hcs
    exact ⟨none, 0, 0, fun _ => 0, hcs, .inl ⟨rfl, rfl, rfl⟩⟩
  · simp at hcs
    simp only [if_true] at hz
    refine ⟨some a, len, cap, fun i => zs.getD i 0, hcs, .inr ⟨a, rfl, fun h0 => ?_, fun i hi => hcell i (by omega)⟩⟩
    have := World.block_lt_of_cell? _ _ (hcell 0 (by omega))
    have hb : (a.add 0).block = a.block := by unfold Addr.add; split <;> rfl
    rw [← hb]; exact this
/-- A condition, opened. -/
theorem open27 (hval : Value.okWide Try.prog W r b0 27 v) (hd : DataW.Trod enc Try.prog W base (fun _ => true) held 27 v d ps) : ∃ (h1 a1 : Bool) (p1 : Option Addr) (l1 c1 : Nat) (V1 : Nat → Int) (h2 a2 : Bool) (p2 : Option Addr) (l2 c2 : Nat) (V2 : Nat → Int),
    v = .agg #[.bool h1, .bool a1, .slice p1 l1 c1, .bool h2, .bool a2, .slice p2 l2 c2] ∧ IsU W.heap.size W p1 l1 c1 V1 ∧ IsU W.heap.size W p2 l2 c2 V2 := by
  obtain ⟨cs, rfl, hsz⟩ := okWide_struct Try.underlying27 hval
  obtain ⟨fuel, hf⟩ := hd
  obtain ⟨ys, m, _, hx, _, hl, hff⟩ := DataW.trod_struct Try.underlying27 hf
  rw [c27] at hsz
  obtain ⟨l⟩ := cs
  match l, hsz, ys, hl with
  | [k0, k1, k2, k3, k4, k5], _, [y0, y1, y2, y3, y4, y5], _ =>
    have h0 := hff 0 _ rfl
    have h1 := hff 1 _ rfl
    have h2 := hff 2 _ rfl
    have h3 := hff 3 _ rfl
    have h4 := hff 4 _ rfl
    have h5 := hff 5 _ rfl
    simp [Value.cells, c4, c25] at h0 h1 h2 h3 h4 h5
    obtain ⟨x0, e0, _⟩ := DataW.trod_bool Try.underlying4 h0
    obtain ⟨x1, e1, _⟩ := DataW.trod_bool Try.underlying4 h1
    obtain ⟨p1, l1, c1, V1, rfl, u1⟩ := isU_of h2
    obtain ⟨x3, e3, _⟩ := DataW.trod_bool Try.underlying4 h3
    obtain ⟨x4, e4, _⟩ := DataW.trod_bool Try.underlying4 h4
    obtain ⟨p2, l2, c2, V2, rfl, u2⟩ := isU_of h5
    simp at e0 e1 e3 e4
    subst e0 e1 e3 e4
    exact ⟨x0, x1, p1, l1, c1, V1, x3, x4, p2, l2, c2, V2, rfl, u1, u2⟩
end

set_option maxRecDepth 100000 in
theorem lifted (os : Os) (started : os.Started) (H : Type) (enc : TypeId × Value → H) :
    ReturnsInHanded {} Try.checked os 6 .any (Rows.fnStepRefusedOrAppliedNeverBothSpec.pre6 enc Try.prog Try.f6 Rows.fnStepRefusedOrAppliedNeverBothRow.domain false) (Rows.fnStepRefusedOrAppliedNeverBothSpec.post enc Try.prog Try.f6 false true false false) := by
  refine returnsInHanded_of_change (C := Try.checked) own started (by kernel_rfl) Try.func6
    (ChangeSpec.witness6 (enc := enc) (C := Try.checked) false ⟨#[], #[.agg #[.bool false, .string ⟨#[]⟩, .int .u64 0], .int .u8 0, .string ⟨#[]⟩, .agg #[.bool false, .bool false, .slice none 0 0, .bool false, .bool false, .slice none 0 0], .int .u64 0], []⟩ 8 (by kernel_rfl) (by kernel_rfl) (by kernel_rfl) (by kernel_rfl)) ?_
  intro W base args ds gs before hval0 hW hcnd _
  have hval : ∀ (j : Nat) t v, Try.f6.params[j]? = some t → args[j]? = some v → Value.okWide Try.prog W .any base t v := hval0
  have hW' := hW
  obtain ⟨p, q, hA0, hV, rfl, hfz, hnd⟩ := hW
  have hA : DataW.TrodAll enc Try.prog W 0 (fun _ => true) true Try.f6.params.toList args.toList ds p := hA0
  rw [Try.params6] at hA hval
  obtain ⟨v0, vs0, d0, ds0, p0, q0, hargs, rfl, rfl, h0, r0⟩ := trodAll_cons hA
  obtain ⟨v1, vs1, d1, ds1, p1, q1, rfl, rfl, rfl, h1, r1⟩ := trodAll_cons r0
  obtain ⟨v2, vs2, d2, ds2, p2, q2, rfl, rfl, rfl, h2, r2⟩ := trodAll_cons r1
  obtain ⟨v3, vs3, d3, ds3, p3, q3, rfl, rfl, rfl, h3, r3⟩ := trodAll_cons r2
  obtain ⟨v4, vs4, d4, ds4, p4, q4, rfl, rfl, rfl, h4, r4⟩ := trodAll_cons r3
  obtain ⟨rfl, rfl, rfl⟩ := trodAll_nil r4
  obtain rfl : args = #[v0, v1, v2, v3, v4] := by cases args; simp_all
  obtain ⟨rfl, rfl⟩ := trodVars_none hV
  have k0 := h0
  have lt0 : ∀ x ∈ p0, x.block < W.heap.size := by obtain ⟨m, hm⟩ := k0; exact DataW.trod_lt m _ _ _ hm
  have k1 := h1
  have lt1 : ∀ x ∈ p1, x.block < W.heap.size := by obtain ⟨m, hm⟩ := k1; exact DataW.trod_lt m _ _ _ hm
  have k2 := h2
  have lt2 : ∀ x ∈ p2, x.block < W.heap.size := by obtain ⟨m, hm⟩ := k2; exact DataW.trod_lt m _ _ _ hm
  have k3 := h3
  have lt3 : ∀ x ∈ p3, x.block < W.heap.size := by obtain ⟨m, hm⟩ := k3; exact DataW.trod_lt m _ _ _ hm
  have k4 := h4
  have lt4 : ∀ x ∈ p4, x.block < W.heap.size := by obtain ⟨m, hm⟩ := k4; exact DataW.trod_lt m _ _ _ hm
  obtain ⟨set, val, sv, rfl⟩ := open24 (hval 0 24 v0 rfl rfl) h0
  obtain ⟨op, rfl⟩ := okWide_int Try.underlying5 (hval 1 5 v1 rfl rfl)
  obtain ⟨inv, rfl⟩ := okWide_string Try.underlying9 (hval 2 9 v2 rfl rfl)
  obtain ⟨b1, a1, x1, l1, c1, V1, b2, a2, x2, l2, c2, V2, rfl, u1, u2⟩ := open27 (hval 3 27 v3 rfl rfl) h3
  obtain ⟨v, rfl⟩ := okWide_int Try.underlying22 (hval 4 22 v4 rfl rfl)
  clear hA0 hval0
  refine (main6 set val inv sv op v b1 a1 b2 a2 x1 x2 l1 c1 l2 c2 V1 V2 W u1 u2).mono fun e W' ⟨he, bel⟩ => ?_
  subst he
  exact ⟨_, rfl, _, _, _, [], _, [], hW', trodAll_mk1 (shut_bool Try.underlying4 _), (trodAll_cons_mk (Below.trod laidOut (by kernel_rfl) (of_decide_eq_true (by kernel_rfl)) k0 bel lt0) (trodAll_cons_mk (Below.trod laidOut (by kernel_rfl) (of_decide_eq_true (by kernel_rfl)) k1 bel lt1) (trodAll_cons_mk (Below.trod laidOut (by kernel_rfl) (of_decide_eq_true (by kernel_rfl)) k2 bel lt2) (trodAll_cons_mk (Below.trod laidOut (by kernel_rfl) (of_decide_eq_true (by kernel_rfl)) k3 bel lt3) (trodAll_cons_mk (Below.trod laidOut (by kernel_rfl) (of_decide_eq_true (by kernel_rfl)) k4 bel lt4) trodAll_mk0))))), rfl, bel.frame _, fun h => by cases h⟩

theorem over : Rows.fnStepRefusedOrAppliedNeverBothRow.holds Try.pinned (OpenSpec.ofChange Rows.fnStepRefusedOrAppliedNeverBothSpec) :=
  OpenClaim.holds_of_wide 6 Try.f6 rfl rfl rfl rfl rfl rfl rfl ⟨rfl, rfl, rfl, rfl, rfl⟩ rfl rfl rfl rfl rfl (by kernel_rfl) Try.func6 (by kernel_rfl)
    (of_decide_eq_true (by kernel_rfl)) (by unfold Func.isWrapper; first | (rw [if_pos (by decide +kernel)]; kernel_rfl) | (rw [if_neg (by decide +kernel)]; exact ⟨rfl, rfl⟩))
    (fun os started H enc _ => lifted os started H enc)

/-- THE STATEMENT. -/
theorem proved : Rows.FnStepRefusedOrAppliedNeverBothSaid := over
#print axioms proved
end Go.Proofs.Qxb6600422a.fnStepRefusedOrAppliedNeverBoth
