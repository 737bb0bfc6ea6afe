import Derived.Test.Qxb6001038aW3
import Derived.Test.Qxb6001038aK1
import Derived.Test.Qxb6001038aC1
import Derived.Test.Qxb6001038aS2
import Derived.Test.Qxb6001038aTr3
namespace Go.Proofs.Qxb6001038a
open Go.RowKit
set_option linter.unusedVariables false

theorem walkC : ∀ h, WalkC h
  | 0 => walk0
  | h + 1 => walk_succ h (walkC h)
theorem buildC : ∀ h, h ≤ 10 → BuildC h
  | 0, _ => build0
  | h + 1, hh => build_succ h (by omega) (buildC h (by omega))

/-- checkTree says true of a tree. -/
theorem check_any (base n lo hi h : Nat) (loZ hiZ hZ : Int) (r : Nd) (σ : Nat → Option Nd) (w : World) (h1 : loZ = lo) (h2 : hiZ = hi) (h3 : hZ = h) (hR : Rep base w σ) (hr : σ n = some r) (hB : Body σ h r lo hi) (hel : r.es.length ≤ 31) (hh : h ≤ 8)
    (hlh : lo ≤ hi) (hd : hi - lo < 90000) (hhi : hi < 1000000) (hbase : base ≤ w.heap.size) :
    Calls Try.prog 13 #[.pointer (some ⟨n, 0, none⟩), .int .i64 loZ, .int .i64 hiZ, .int .i64 hZ] w fun e w' => e = .returned (.bool true) ∧ MutW base w w' := by
  subst h1
  subst h3
  refine check_core base n lo hi h (hi - lo) hiZ w hbase (by omega) hhi h2 ?_
  rintro W rfl
  have hW : Wk base (w.alloc (.cells #[.slice none 0 0, .slice none 0 0, .int .i64 (-1), .bool true] 57)) w.heap.size (.slice none 0 0) (.slice none 0 0) [] [] (-1) :=
    ⟨hbase, heap_alloc_new w _, World.ownsRow_nil _ _ _ _, World.ownsRow_nil _ _ _ _⟩
  refine (walkC h base w.heap.size n lo hi 0 0 r true _ _ [] [] (-1) σ _ rfl (hR.alloc _) hr hW (by simp; omega) hB hel (.inl rfl) (by omega) (.inl (by decide)) (by simp; omega) (by simp; omega)).mono ?_
  rintro e w' ⟨rfl, hM, vk, vi, hW'⟩
  refine ⟨rfl, hM, vk, vi, ?_⟩
  simpa using hW'

/-- ZZSplit. -/
theorem split_any (base n i h a b : Nat) (iZ : Int) (r s : Nd) (σ : Nat → Option Nd) (w : World) (hZ : iZ = i) (hR : Rep base w σ) (hr : σ n = some r) (hs : σ (r.cs.getD i 0) = some s) (hcn : r.cs.getD i 0 ≠ n) (hi : i < r.cs.length)
    (hse : s.es.length = 31) (hsub : Sub σ h (r.cs.getD i 0) a b) (hre : r.es.length < 100) (hrc : r.cs.length < 100) (hie : i ≤ r.es.length) (hbase : base ≤ w.heap.size) :
    Calls Try.prog 12 #[.pointer (some ⟨n, 0, none⟩), .int .i64 iZ] w fun e w' => e = .returned (.tuple #[]) ∧ Mut base w w' ∧
      ∃ m, w.heap.size ≤ m ∧ Rep base w' (upd (upd (upd σ m ⟨s.es.drop 16, s.cs.drop 16, r.own⟩) (r.cs.getD i 0) { s with es := s.es.take 15, cs := s.cs.take 16 }) n { r with es := r.es.take i ++ ([s.es.getD 15 0] ++ r.es.drop i), cs := r.cs.take (i + 1) ++ ([m] ++ r.cs.drop (i + 1)) }) := by
  subst hZ
  have hc : Calls Try.prog 31 #[.pointer (some ⟨n, 0, none⟩), .int .i64 i] w fun e w' => e = .returned (.tuple #[]) ∧ Mut base w w' ∧
      ∃ m, w.heap.size ≤ m ∧ Rep base w' (upd (upd (upd σ m ⟨s.es.drop 16, s.cs.drop 16, r.own⟩) (r.cs.getD i 0) { s with es := s.es.take 15, cs := s.cs.take 16 }) n { r with es := r.es.take i ++ ([s.es.getD 15 0] ++ r.es.drop i), cs := r.cs.take (i + 1) ++ ([m] ++ r.cs.drop (i + 1)) }) := by
    obtain ⟨s', hs', _, _, hb⟩ := sub_body hsub
    rw [hs] at hs'
    cases hs'
    cases h with
    | zero => exact split_leaf base n i _ r s σ w hR hr hs hcn hi rfl hse hb.1 hre hrc hie hbase
    | succ h => exact split_inner base n i _ r s σ w hR hr hs hcn hi rfl hse (by have := kids_len hb; omega) hre hrc hie hbase
  have hcH := hide hc
  clear hc
  go_enter Try.func12, Try.ntmps12
  go_wp2_with (go_at_call 31; refine hcH.out.mono ?_; rintro e w1 ⟨rfl, hM1, hm⟩)
  go_end0
  exact ⟨rfl, hM1, hm⟩

/-- The world in which build is called. -/
theorem start_world (base : Nat) (W1 : World) (p : Option Addr) (n c : Nat) (hS : Siz W1 p n) (hb : base ≤ W1.heap.size) :
    Rep base ((W1.alloc (.cells #[.int .u8 0] 47)).alloc (.cells #[.slice p n c, .int .i64 0, .int .i64 0] 28)) (fun _ => none) ∧
    BAt ((W1.alloc (.cells #[.int .u8 0] 47)).alloc (.cells #[.slice p n c, .int .i64 0, .int .i64 0] 28)) (W1.heap.size + 1) (.slice p n c) 0 0 ∧
    Siz ((W1.alloc (.cells #[.int .u8 0] 47)).alloc (.cells #[.slice p n c, .int .i64 0, .int .i64 0] 28)) p n ∧
    ((W1.alloc (.cells #[.int .u8 0] 47)).alloc (.cells #[.slice p n c, .int .i64 0, .int .i64 0] 28)).heap[W1.heap.size]? = some (.cells #[.int .u8 0] 47 (0, 0)) := by
  refine ⟨⟨fun _ => (.slice none 0 0, .slice none 0 0), ⟨(fun n r h => by cases h), (fun n r m s b h => by cases h), (fun n r m s b h => by cases h)⟩⟩, heap_alloc2_new W1 _ _, hS.keep (fun b c hc => ?_), heap_alloc2_old W1 _ _⟩
  have hl := lt_of_heap hc
  rw [Below.heap_alloc _ _ b (by simp; omega), Below.heap_alloc _ _ b hl]
  exact hc

end Go.Proofs.Qxb6001038a
