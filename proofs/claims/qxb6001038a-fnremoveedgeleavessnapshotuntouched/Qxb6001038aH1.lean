import Derived.Test.Qxb6001038aF2
namespace Go.Proofs.Qxb6001038a
open Go.RowKit
set_option linter.unusedVariables false
set_option linter.unusedSimpArgs false
attribute [local go_sem ↓] Go.wp_at_zero Go.wp_at_succ

theorem infoI : (Try.prog.info? 3).map (fun i => (i.zero, i.size, i.bytes)) = some (some (.int .i64 0), 1, 8) := by kernel_rfl

def encN (l : List Nat) : List Value := l.map fun (n : Nat) => Value.int .i64 n
theorem encN_append (a b : List Nat) : encN (a ++ b) = encN a ++ encN b := by simp [encN]
theorem encN_len (a : List Nat) : (encN a).length = a.length := by simp [encN]

theorem grown_more {w a b : World} {row row' : Option Nat} (h : w.grownBy a row) (k : a.grownBy b row') (hr : ∀ g, row' = some g → row = some g ∨ w.heap.size ≤ g) : w.grownBy b row :=
  ⟨k.os.trans h.os, k.tape.trans h.tape, k.output.trans h.output, Nat.le_trans h.size k.size, fun i hi hne => (k.block i (Nat.lt_of_lt_of_le hi h.size) (fun e => by
    rcases hr i e.symm with e | e
    · exact hne e.symm
    · omega)).trans (h.block i hi hne)⟩

/-- The row grew by ys. -/
structure ShOut (base : Nat) (w : World) (v : Value) (xs ys : List Nat) (w' : World) (v' : Value) : Prop where
  own : w'.ownsRow base 3 1 v' (xs ++ ys).length (encN (xs ++ ys))
  grow : w.grownBy w' v.ownBlock
  at' : ∀ b, v'.ownBlock = some b → v.ownBlock = some b ∨ w.heap.size ≤ b
theorem ShOut.trans {base : Nat} {w w1 w2 : World} {v v1 v2 : Value} {xs ys zs : List Nat} (h : ShOut base w v xs ys w1 v1) (k : ShOut base w1 v1 (xs ++ ys) zs w2 v2) : ShOut base w v xs (ys ++ zs) w2 v2 := by
  refine ⟨by rw [← List.append_assoc]; exact k.own, grown_more h.grow k.grow h.at', fun b hb => ?_⟩
  rcases k.at' b hb with h1 | h1
  · exact h.at' b h1
  · exact .inr (Nat.le_trans h.grow.size h1)
theorem rep_sh {base n : Nat} {w w' : World} {σ : Nat → Option Nd} {v : Value} {l : List Value} (h : Rep base w σ) (ho : w.ownsRow base 3 1 v n l) (hg : w.grownBy w' v.ownBlock) : Rep base w' σ :=
  h.keep fun b c t fz hc ht => off_row ho hg hc (by rcases ht with rfl | rfl | rfl | rfl <;> decide)

set_option maxHeartbeats 2000000 in
/-- One node's part of shape. -/
theorem shape_node (base n d : Nat) (dd : Int) (r : Nd) (v : Value) (xs : List Nat) (T : Nat → List Nat) (σ : Nat → Option Nd) (w : World) (h0 : dd = d) (hR : Rep base w σ) (hr : σ n = some r) (hel : r.es.length ≤ 31) (hcl : r.cs.length ≤ 32) (hd : d ≤ 8) (hbase : base ≤ w.heap.size)
    (ho : w.ownsRow base 3 1 v xs.length (encN xs)) (hx : xs.length < 100000)
    (hT : ∀ k, k < r.cs.length → ∀ v1 w1, Rep base w1 σ → base ≤ w1.heap.size → w1.ownsRow base 3 1 v1 (xs ++ ([r.es.length, r.cs.length] ++ (List.range k).flatMap T)).length (encN (xs ++ ([r.es.length, r.cs.length] ++ (List.range k).flatMap T))) →
      Calls Try.prog 20 #[.pointer (some ⟨r.cs.getD k 0, 0, none⟩), .int .i64 (d + 1), v1] w1 fun e w' => ∃ v', e = .returned v' ∧ ShOut base w1 v1 (xs ++ ([r.es.length, r.cs.length] ++ (List.range k).flatMap T)) (T k) w' v') :
    Calls Try.prog 20 #[.pointer (some ⟨n, 0, none⟩), .int .i64 dd, v] w fun e w' => ∃ v', e = .returned v' ∧ ShOut base w v xs ([r.es.length, r.cs.length] ++ (List.range r.cs.length).flatMap T) w' v' := by
  subst h0
  obtain ⟨pv, cv, hv, hvl, hvm⟩ := ownsRow_shape ho
  subst hv
  obtain ⟨ne, hne⟩ : ∃ ne, ne = r.es.length := ⟨_, rfl⟩
  obtain ⟨nc, hnc⟩ : ∃ nc, nc = r.cs.length := ⟨_, rfl⟩
  obtain ⟨X, hX⟩ : ∃ X, X = xs.length := ⟨_, rfl⟩
  have n1 := num_rep base n ne r σ w hR hr hne.symm
  have n2 : Calls Try.prog 34 #[.pointer (some ⟨n, 0, none⟩)] w fun e w' => e = .returned (.int .i64 nc) ∧ w' = w := by
    obtain ⟨ph, hp⟩ := hR
    obtain ⟨p, cap, hv, _⟩ := ownsRow_shape (hp.nd n r hr).kids
    have c1 := hp.c1 hr
    rw [hv, ← hnc] at c1
    exact numChildren_any n p nc cap w c1
  rw [← hne, ← hnc] at hT ⊢
  rw [← hnc] at hcl
  rw [← hX] at hvl hx
  have o1 : (w.alloc (.cells #[.int .i64 ne, .int .i64 nc] 3)).ownsRow base 3 1 (.slice pv X cv) X (encN xs) := by rw [hX]; exact ho.alloc _
  have o2 : ∀ j u, [Value.int .i64 (ne : Int), Value.int .i64 (nc : Int)][j]? = some u → (w.alloc (.cells #[.int .i64 ne, .int .i64 nc] 3)).cell? ((⟨w.heap.size, 0, none⟩ : Addr).add j) = some u := World.news_of_block (heap_alloc_new w _)
  have n1H := hide n1; have n2H := hide n2; have hRH := hide hR; have hrH := hide hr; have hTH := hide hT; have hoH := hide ho; have o1H := hide o1; have o2H := hide o2; have hneH := hide hne; have hncH := hide hnc; have hXH := hide hX
  rw [← hX]
  clear n1 n2 hR hr hT ho o1 o2 hne hnc hel hX
  have q1 : ¬ ((8 : Int) < (d : Int)) := by omega
  obtain ⟨i0, hi0, hz0, hz1, hz2⟩ := info_parts infoI
  go_enter Try.func20, Try.ntmps20
  go_wp2_with (first
    | (go_at_call 14; refine n1H.out.mono ?_; rintro e w ⟨rfl, rfl⟩)
    | (go_at_call 34; refine n2H.out.mono ?_; rintro e w ⟨rfl, rfl⟩)
    | (at_builtin; refine wpList_append_lies _ rfl _ _ 37 rfl base 3 i0 (.int .i64 0) 1 8 Try.underlying37 hi0 hz0 hz1 hz2 rfl (by omega) (.slice pv X cv) X (encN xs) rfl o1H.out ⟨w.heap.size, 0, none⟩ 2 2 [.int .i64 ne, .int .i64 nc] rfl rfl o2H.out (by simp [Value.oneCell']) (by omega) (by unfold maxLen; omega) (by omega) (by simp; omega) (w.heap.size + 1) (by simp) ?_; intro g cap1 W1 hown1 hgrow hat hlt))
  have hS0 : ShOut base w (.slice pv X cv) xs [ne, nc] W1 (.slice (some ⟨g, 0, none⟩) (X + 2) cap1) := by
    refine ⟨?_, grown_trans (grown_alloc _ _) hgrow, fun b hb => ?_⟩
    · rw [encN_append, List.length_append, ← hXH.out]
      exact hown1
    · simp only [Value.ownBlock, Option.some.injEq] at hb
      rw [← hb]
      rcases hat with h | h
      · exact .inl h
      · exact .inr (by omega)
  have hS0H := hide hS0
  have hoX : w.ownsRow base 3 1 (.slice pv X cv) xs.length (encN xs) := by have := hoH.out; rw [← hXH.out] at this ⊢; exact this
  have hoXH := hide hoX
  clear hS0 hown1 hgrow hat hlt o1H o2H hi0 hz0 hz1 hz2 n1H n2H hoX
  go_loopw [2, 9] (fun o j wr => ∃ k : Nat, k ≤ nc ∧ j = .int .i64 k ∧ Hid (ShOut base w (.slice pv X cv) xs ([ne, nc] ++ (List.range k).flatMap T) wr o)) (fun o j _ => nc - (intOf j).toNat)
  case atStart => exact ⟨0, by omega, rfl, hide (by simpa using hS0H.out)⟩
  case round =>
    obtain ⟨k, hk, rfl, hI⟩ := hrel
    by_cases hlt : k < nc
    · have hS := hI.out
      have hRr := rep_sh hRH.out hoXH.out hS.grow
      have hbr : base ≤ wr.heap.size := Nat.le_trans hbase hS.grow.size
      have hkc : k < r.cs.length := by rw [← hncH.out]; exact hlt
      have hch := child_rep base n k k r σ wr rfl hRr hrH.out hkc _ rfl
      have hrec := hTH.out k hlt _ wr hRr hbr hS.own
      obtain ⟨c, hc⟩ : ∃ c, c = r.cs.getD k 0 := ⟨_, rfl⟩
      rw [← hc] at hch hrec
      have hchH := hide hch; have hrecH := hide hrec; have hSH := hide hS
      have hb1 : (k : Int) < (nc : Int) := by omega
      clear hch hrec hS hI hRr hc
      go_wp2_with (first
        | (go_at_call 15; refine hchH.out.mono ?_; rintro e wr ⟨rfl, rfl⟩)
        | (go_at_call 20; refine hrecH.out.mono ?_; rintro e w2 ⟨v2, rfl, hS2⟩))
      go_roundw
      case rel =>
        refine ⟨k + 1, by omega, by go_num, hide ?_⟩
        have := hSH.out.trans hS2
        rw [List.range_succ, List.flatMap_append]
        simpa using this
      case measure => simp [intOf]; omega
    · obtain rfl : k = nc := by omega
      go_wp2
      go_ret
      exact ⟨_, rfl, hI.out⟩

/-- The numbers of entries and children of a subtree, in pre-order. -/
def shp (σ : Nat → Option Nd) : Nat → Nat → List Nat
  | 0, n => match σ n with
    | some r => [r.es.length, r.cs.length]
    | none => []
  | h + 1, n => match σ n with
    | some r => [r.es.length, r.cs.length] ++ (List.range r.cs.length).flatMap fun k => shp σ h (r.cs.getD k 0)
    | none => []
def sB : Nat → Nat
  | 0 => 2
  | h + 1 => 2 + 32 * sB h

theorem flat_len (T : Nat → List Nat) (m k : Nat) (h : ∀ i, i < k → (T i).length ≤ m) : ((List.range k).flatMap T).length ≤ k * m := by
  induction k with
  | zero => simp
  | succ k ih =>
    rw [List.range_succ, List.flatMap_append, List.length_append, Nat.succ_mul]
    have h1 := ih (fun i hi => h i (by omega))
    have h2 := h k (by omega)
    have h3 : (List.flatMap T [k]).length = (T k).length := by simp
    omega
theorem flat_congr (T T' : Nat → List Nat) (k : Nat) (h : ∀ i, i < k → T i = T' i) : (List.range k).flatMap T = (List.range k).flatMap T' := by
  induction k with
  | zero => simp
  | succ k ih =>
    rw [List.range_succ, List.flatMap_append, List.flatMap_append, ih (fun i hi => h i (by omega))]
    simp [h k (by omega)]

theorem shp_len {σ : Nat → Option Nd} : ∀ (h n lo hi : Nat) (r : Nd), σ n = some r → Body σ h r lo hi → r.es.length ≤ 31 → (shp σ h n).length ≤ sB h
  | 0, n, lo, hi, r, hr, hb, hl => by unfold shp; rw [hr]; simp [sB]
  | h + 1, n, lo, hi, r, hr, hb, hl => by
    have hk : Kids (Sub σ h) r.cs r.es lo hi := hb
    have hlen := kids_len hk
    unfold shp
    rw [hr]
    have := flat_len (fun k => shp σ h (r.cs.getD k 0)) (sB h) r.cs.length (fun i hi => by
      obtain ⟨rc, hrc, h1, h2, hbc⟩ := sub_body (kids_get hk i (by omega))
      exact shp_len h _ _ _ rc hrc hbc h2)
    have h2 : r.cs.length * sB h ≤ 32 * sB h := Nat.mul_le_mul_right _ (by omega)
    simp only [sB, List.length_append, List.length_cons, List.length_nil]
    omega
theorem shp_mono {σ σ' : Nat → Option Nd} (hf : ∀ y t, σ y = some t → σ' y = some t) : ∀ (h n lo hi : Nat) (r : Nd), σ n = some r → Body σ h r lo hi → shp σ' h n = shp σ h n
  | 0, n, lo, hi, r, hr, hb => by unfold shp; rw [hr, hf _ _ hr]
  | h + 1, n, lo, hi, r, hr, hb => by
    have hk : Kids (Sub σ h) r.cs r.es lo hi := hb
    have hlen := kids_len hk
    unfold shp
    rw [hr, hf _ _ hr]
    dsimp only
    rw [flat_congr _ _ _ (fun i hi => ?_)]
    obtain ⟨rc, hrc, h1, h2, hbc⟩ := sub_body (kids_get hk i (by omega))
    exact shp_mono hf h _ _ _ rc hrc hbc

/-- shape. -/
theorem shape_any : ∀ (h base n d lo hi : Nat) (dd : Int) (r : Nd) (v : Value) (xs : List Nat) (σ : Nat → Option Nd) (w : World), dd = d → Rep base w σ → σ n = some r → Body σ h r lo hi → r.es.length ≤ 31 → d + h ≤ 8 → base ≤ w.heap.size → w.ownsRow base 3 1 v xs.length (encN xs) → xs.length + sB h < 100000 →
    Calls Try.prog 20 #[.pointer (some ⟨n, 0, none⟩), .int .i64 dd, v] w fun e w' => ∃ v', e = .returned v' ∧ ShOut base w v xs (shp σ h n) w' v'
  | 0, base, n, d, lo, hi, dd, r, v, xs, σ, w, h0, hR, hr, hb, hl, hd, hbase, ho, hx => by
    have hc : r.cs = [] := hb.1
    have := shape_node base n d dd r v xs (fun _ => []) σ w h0 hR hr hl (by rw [hc]; simp) (by omega) hbase ho (by omega) (fun k hk => by rw [hc] at hk; simp at hk)
    unfold shp
    rw [hr]
    dsimp only
    rw [hc] at this ⊢
    simpa using this
  | h + 1, base, n, d, lo, hi, dd, r, v, xs, σ, w, h0, hR, hr, hb, hl, hd, hbase, ho, hx => by
    have hk : Kids (Sub σ h) r.cs r.es lo hi := hb
    have hlen := kids_len hk
    have := shape_node base n d dd r v xs (fun k => shp σ h (r.cs.getD k 0)) σ w h0 hR hr hl (by omega) (by omega) hbase ho (by omega) (fun k hkl v1 w1 hR1 hb1 ho1 => by
      obtain ⟨rc, hrc, h1, h2, hbc⟩ := sub_body (kids_get hk k (by omega))
      have hfl := flat_len (fun k => shp σ h (r.cs.getD k 0)) (sB h) k (fun i hi => by
        obtain ⟨rc, hrc, h1, h2, hbc⟩ := sub_body (kids_get hk i (by omega))
        exact shp_len h _ _ _ rc hrc hbc h2)
      have h3 : (k + 1) * sB h ≤ 32 * sB h := Nat.mul_le_mul_right _ (by omega)
      rw [Nat.succ_mul] at h3
      simp only [sB] at hx
      exact shape_any h base _ (d + 1) _ _ _ rc v1 _ σ w1 (by omega) hR1 hrc hbc h2 (by omega) hb1 ho1 (by simp only [List.length_append, List.length_cons, List.length_nil]; omega))
    unfold shp
    rw [hr]
    exact this

end Go.Proofs.Qxb6001038a
