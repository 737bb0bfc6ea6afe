import Derived.Test.Qxb6600422aS1
namespace Go.Proofs.Qxb6600422a
open Go.RowKit
set_option linter.unusedVariables false
set_option linter.unusedSimpArgs false
attribute [local go_sem ↓] Go.wp_at_zero Go.wp_at_succ

theorem results_tmp4 {fn : Func} {a b c d : Tmp} (h : fn.results = #[.tmp a, .tmp b, .tmp c, .tmp d]) (tmps : Array Value) (P : Program) (w : World) :
    (results fn tmps).run P w = .ok (.tuple #[tmps.getD a undef, tmps.getD b undef, tmps.getD c undef, tmps.getD d undef]) w := by
  simp [results, h]

def Said4 (ok : Bool) (W : World) (e : Ending) (w' : World) : Prop := (∃ a b c, e = .returned (.tuple #[.bool ok, .bool a, .string b, .int .u64 c])) ∧ Below W.heap.size W w'

set_option maxHeartbeats 2000000 in
theorem zzstep29 (set : Bool) (val key inv ov : ByteArray) (sv op v : Int) (ans found ref : Bool) (p1 p2 : Option Addr) (ok : Bool) (w : World)
    (h : ∀ W, Below w.heap.size w W → Calls Try.prog 34 #[.agg #[.bool set, .string val, .int .u64 sv], .agg #[.int .u8 op, .string key, .string inv, .pointer p1, .pointer p2], .agg #[.bool ans, .bool found, .bool ref, .string ov, .int .u64 v]] W (Said ok W)) :
    Calls Try.prog 29 #[.bool set, .string val, .int .u64 sv, .int .u8 op, .string key, .string inv, .agg #[.pointer p1, .pointer p2], .bool ans, .bool found, .bool ref, .string ov, .int .u64 v] w (Said4 ok w) := by
  have hB1 : Below w.heap.size w (w.alloc (.cells #[.pointer p1, .pointer p2] 35)) := (Below.refl _ _).alloc (Nat.le_refl _) _
  have hH := hide (h _ hB1); have hB1H := hide hB1
  clear h hB1
  go_enter Try.func29, Try.ntmps29
  go_upto_region 2 with (first | (go_at_call 34; refine hH.out.mono ?_; rintro e W5 ⟨⟨x, y, z, rfl⟩, hB5⟩))
  go_quiet (fail)
  go_wp2_with fail
  refine bodyPost_ret (results_tmp4 rfl _ _ _) rfl ?_
  refine ⟨⟨_, _, _, rfl⟩, ?_⟩
  have hb : Below w.heap.size w W5 := hB1H.out.trans (hB5.mono hB1H.out.size)
  exact (hb.alloc hb.size _).trans ⟨rfl, rfl, rfl, Nat.le_refl _, fun _ _ => rfl⟩

theorem size24 : (Try.prog.info? 24).map (·.size) = some 3 := by kernel_rfl
theorem results_tmp_cell24 {fn : Func} {p u : Tmp} (h : fn.results = #[.tmp u, .cell p 24]) (tmps : Array Value) (w : World) (g : Nat) (cs : Array Value)
    (hp : tmps.getD p undef = .pointer (some ⟨g, 0, none⟩)) (hg : w.heap[g]? = some (.cells cs 24 (0, 0))) (hi : cs.size = 3) :
    (results fn tmps).run Try.prog w = .ok (.tuple #[tmps.getD u undef, .agg cs]) w := by
  have hp' : tmps[p]?.getD undef = .pointer (some ⟨g, 0, none⟩) := by simpa using hp
  have hl := run_loadVar_row (P := Try.prog) w g 24 24 cs (0, 0) _ hg Try.underlying24 rfl (by rw [hi]; exact size24)
  simp [results, h, hp', asAddr, hl]

set_option maxHeartbeats 2000000 in
theorem zzstep19 (set : Bool) (val key inv ov : ByteArray) (sv op v : Int) (ans found ref : Bool) (p1 p2 : Option Addr) (ok : Bool) (w : World)
    (h : ∀ W, Below w.heap.size w W → Calls Try.prog 34 #[.agg #[.bool set, .string val, .int .u64 sv], .agg #[.int .u8 op, .string key, .string inv, .pointer p1, .pointer p2], .agg #[.bool ans, .bool found, .bool ref, .string ov, .int .u64 v]] W (Said ok W)) :
    Calls Try.prog 19 #[.agg #[.bool set, .string val, .int .u64 sv], .int .u8 op, .string key, .string inv, .agg #[.pointer p1, .pointer p2], .agg #[.bool ans, .bool found, .bool ref, .string ov, .int .u64 v]] w (Said ok w) := by
  have h29 := hide (fun W (hB : Below w.heap.size w W) => zzstep29 set val key inv ov sv op v ans found ref p1 p2 ok W (fun W' hB' => h W' (hB.trans (hB'.mono hB.size))))
  clear h
  have hB4 : Below w.heap.size w ((((w.alloc (.cells #[.bool set, .string val, .int .u64 sv] 24)).alloc (.cells #[.pointer p1, .pointer p2] 35)).alloc (.cells #[.bool ans, .bool found, .bool ref, .string ov, .int .u64 v] 42)).alloc (.cells #[.bool false, .string ⟨#[]⟩, .int .u64 0] 24)) := ((((Below.refl _ _).alloc (Nat.le_refl _) _).alloc (by simp) _).alloc (by first | (simp; done) | (simp; omega)) _).alloc (by first | (simp; done) | (simp; omega)) _
  have hR4 : ((((w.alloc (.cells #[.bool set, .string val, .int .u64 sv] 24)).alloc (.cells #[.pointer p1, .pointer p2] 35)).alloc (.cells #[.bool ans, .bool found, .bool ref, .string ov, .int .u64 v] 42)).alloc (.cells #[.bool false, .string ⟨#[]⟩, .int .u64 0] 24)).heap[w.heap.size + 1 + 1 + 1]? = some (.cells #[.bool false, .string ⟨#[]⟩, .int .u64 0] 24 (0, 0)) := by
    have := heap_alloc2_new ((w.alloc (.cells #[.bool set, .string val, .int .u64 sv] 24)).alloc (.cells #[.pointer p1, .pointer p2] 35)) (.cells #[.bool ans, .bool found, .bool ref, .string ov, .int .u64 v] 42) (.cells #[.bool false, .string ⟨#[]⟩, .int .u64 0] 24)
    simpa using this
  have hB4H := hide hB4; have hR4H := hide hR4
  clear hB4 hR4
  go_enter Try.func19, Try.ntmps19
  go_wp2_with (first | (go_at_call 29; refine (h29.out _ hB4H.out).mono ?_; rintro e W5 ⟨⟨x, y, z, rfl⟩, hB5⟩; have gh : W5.heap[w.heap.size + 1 + 1 + 1]? = some (.cells #[.bool false, .string ⟨#[]⟩, .int .u64 0] 24 (0, 0)) := (hB5.block _ (lt_of_heap hR4H.out)).trans hR4H.out; obtain ⟨g0, g1, g2, gf⟩ := cells3 gh; have ghH := hide gh; clear gh))
  have hg3 : (((W5.setCell ⟨w.heap.size + 1 + 1 + 1, 0, none⟩ (.bool x)).setCell ⟨w.heap.size + 1 + 1 + 1, 1, none⟩ (.string y)).setCell ⟨w.heap.size + 1 + 1 + 1, 2, none⟩ (.int .u64 z)).heap[w.heap.size + 1 + 1 + 1]? = some (.cells #[.bool x, .string y, .int .u64 z] 24 (0, 0)) :=
    heap_setCell_same _ _ 2 _ 24 _ (heap_setCell_same _ _ 1 _ 24 _ (heap_setCell_same W5 _ 0 _ 24 _ ghH.out))
  refine bodyPost_ret (results_tmp_cell24 rfl _ _ (w.heap.size + 1 + 1 + 1) _ rfl hg3 rfl) rfl ?_
  refine ⟨⟨_, _, _, rfl⟩, ?_⟩
  have hb : Below w.heap.size w W5 := hB4H.out.trans (hB5.mono hB4H.out.size)
  exact ((hb.setCell (by simp; omega) _).setCell (by simp; omega) _).setCell (by simp; omega) _
end Go.Proofs.Qxb6600422a
