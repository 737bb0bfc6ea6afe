import Derived.Test.Qxb6001038aB2
import Derived.Test.Qxb6001038aTr
import Derived.Deep.LoopGhost
namespace Go.Proofs.Qxb6001038a
open Go.RowKit
set_option linter.unusedVariables false
attribute [local go_sem ↓] Go.wp_at_zero Go.wp_at_succ

theorem MutB.refl (base bb : Nat) (w : World) : MutB base bb w w := ⟨Below.refl _ _, fun _ _ _ _ h _ _ _ _ => h⟩

set_option maxHeartbeats 1000000 in
set_option maxRecDepth 100000 in
theorem build_leaf (base bb o ent pos nx : Nat) (f : Int) (sv : Value) (σ : Nat → Option Nd) (w : World) (h : Rep base w σ) (hbase : base ≤ w.heap.size) (hbb : base ≤ bb) (hb : BAt w bb sv pos nx)
    (ho : w.heap[o]? = some (.cells #[.int .u8 0] 47 (0, 0))) (he : ent ≤ 31) (hnx : nx + 31 ≤ 999990) :
    Calls Try.prog 11 #[.pointer (some ⟨bb, 0, none⟩), .pointer (some ⟨o, 0, none⟩), .int .i64 0, .int .i64 ent, .int .i64 f] w fun e w' =>
      e = .returned (.pointer (some ⟨w.heap.size, 0, none⟩)) ∧ Rep base w' (upd σ w.heap.size ⟨List.range' nx ent, [], o⟩) ∧ BAt w' bb sv pos (nx + ent) ∧ MutB base bb w w' := by
  have hRH := hide h; have hbH := hide hb; have hoH := hide ho
  clear h hb ho
  go_enter Try.func11, Try.ntmps11
  go_wp2_with (go_at_call 27; refine (newNode_rep base o σ _ hRH.out hbase hoH.out).mono ?_; rintro e w1 ⟨rfl, hR1, hM1⟩)
  go_loopw [12] (fun j wr => ∃ k : Nat, k ≤ ent + 1 ∧ j = .int .i64 k ∧ Hid (Rep base wr (upd σ w.heap.size ⟨List.range' nx (min k ent), [], o⟩) ∧ BAt wr bb sv pos (nx + min k ent) ∧ MutB base bb w wr)) (fun j _ => ent + 1 - (intOf j).toNat)
  case atStart => exact ⟨0, by omega, rfl, by simpa using hR1, by rw [Nat.zero_min]; exact hM1.oth bb _ _ _ hbH.out (by decide) (by decide) (by decide), hM1.toB⟩
  case round =>
    obtain ⟨k, hk, rfl, hI⟩ := hrel
    obtain ⟨hR, hB, hM⟩ := hI.out
    have hRk := hide hR; have hBk := hide hB; have hMk := hide hM
    clear hR hB hM hI
    by_cases h1 : k < ent
    · have hmin : min k ent = k := by omega
      rw [hmin] at hRk hBk
      go_wp2_with (go_at_call 30; refine (put_any base bb pos (nx + k) w.heap.size sv ⟨List.range' nx k, [], o⟩ _ _ hRk.out (upd_same _ _ _) (by simp; omega) (Nat.le_trans hbase hMk.out.below.size) hbb hBk.out (by omega)).mono ?_; rintro e w2 ⟨rfl, hR2, hB2, hM2⟩)
      go_roundw
      case rel =>
        refine ⟨k + 1, by omega, by go_num, ?_⟩
        rw [show min (k + 1) ent = k + 1 by omega]
        have hu : upd (upd σ w.heap.size ⟨List.range' nx k, [], o⟩) w.heap.size ⟨List.range' nx k ++ [nx + k], [], o⟩ = upd σ w.heap.size ⟨List.range' nx (k + 1), [], o⟩ := by
          funext x
          unfold upd
          split
          · rw [List.range'_concat]; simp
          · rfl
        exact ⟨by rw [← hu]; exact hR2, by rw [← Nat.add_assoc]; exact hB2, hMk.out.trans hM2⟩
      case measure => simp [intOf]; omega
    · by_cases h2 : k = ent
      · subst h2
        rw [Nat.min_self] at hRk hBk
        go_wp2_with fail
        go_roundw
        case rel => exact ⟨k + 1, by omega, by go_num, by rw [show min (k + 1) k = k by omega]; exact ⟨hRk.out, hBk.out, hMk.out⟩⟩
        case measure => simp [intOf]
      · obtain rfl : k = ent + 1 := by omega
        rw [show min (ent + 1) ent = ent by omega] at hRk hBk
        go_wp2_with fail
        go_ret
        exact ⟨rfl, hRk.out, hBk.out, hMk.out⟩


def cB : Nat → Nat
  | 0 => 0
  | h + 1 => 32 * (1 + cB h)
def nB : Nat → Nat
  | 0 => 31
  | h + 1 => 31 + 32 * nB h

/-- What build has made. -/
def Built (σ : Nat → Option Nd) (B : Nat) : Nat → Nat → Nat → Nat → Nat → Nat → Int → Prop
  | 0, x, ent, nx, nx', o, f => σ x = some ⟨List.range' nx ent, [], o⟩ ∧ B ≤ x ∧ nx' = nx + ent
  | h + 1, x, ent, nx, nx', o, f => ∃ es cs, σ x = some ⟨es, cs, o⟩ ∧ B ≤ x ∧ es.length = ent ∧ Kids (Sub (nw σ B) h) cs es nx nx' ∧ ∀ i : Nat, (i : Int) = f → i ≤ ent → ∃ s, σ (cs.getD i 0) = some s ∧ s.es.length = 31

theorem Built.node {σ : Nat → Option Nd} {B h x ent nx nx' o : Nat} {f : Int} (hb : Built σ B h x ent nx nx' o f) : ∃ r, σ x = some r ∧ r.es.length = ent ∧ B ≤ x := by
  cases h with
  | zero => obtain ⟨h1, h2, h3⟩ := hb; exact ⟨_, h1, by simp, h2⟩
  | succ h => obtain ⟨es, cs, h1, h2, h3, _⟩ := hb; exact ⟨_, h1, h3, h2⟩
theorem Built.sub {σ : Nat → Option Nd} {B h x ent nx nx' o : Nat} {f : Int} (hb : Built σ B h x ent nx nx' o f) (h1 : 15 ≤ ent) (h2 : ent ≤ 31) : Sub (nw σ B) h x nx nx' := by
  cases h with
  | zero =>
    obtain ⟨a1, a2, a3⟩ := hb
    exact ⟨_, nw_some.2 ⟨a2, a1⟩, by simpa using h1, by simpa using h2, rfl, by simp, by simpa using a3⟩
  | succ h =>
    obtain ⟨es, cs, a1, a2, a3, a4, _⟩ := hb
    exact ⟨_, nw_some.2 ⟨a2, a1⟩, by simp only [a3]; exact h1, by simp only [a3]; exact h2, a4⟩

def BuildC (h : Nat) : Prop := ∀ (base bb o ent pos nx n cap : Nat) (p : Option Addr) (hh ee f : Int) (σ : Nat → Option Nd) (w : World), hh = h → ee = ent → Rep base w σ → base ≤ w.heap.size → base ≤ bb → BAt w bb (.slice p n cap) pos nx → Siz w p n → n < 1000000 →
  w.heap[o]? = some (.cells #[.int .u8 0] 47 (0, 0)) → ent ≤ 31 → nx + nB h ≤ 999990 → pos + cB h < 1000000 →
  Calls Try.prog 11 #[.pointer (some ⟨bb, 0, none⟩), .pointer (some ⟨o, 0, none⟩), .int .i64 hh, .int .i64 ee, .int .i64 f] w fun e w' =>
    ∃ x σ' pos' nx', e = .returned (.pointer (some ⟨x, 0, none⟩)) ∧ Rep base w' σ' ∧ BAt w' bb (.slice p n cap) pos' nx' ∧ pos' ≤ pos + cB h ∧ nx' ≤ nx + nB h ∧ MutB base bb w w' ∧
      (∀ y, y < w.heap.size → σ' y = σ y) ∧ (∀ y r, w.heap.size ≤ y → σ' y = some r → r.own = o) ∧ Built σ' w.heap.size h x ent nx nx' o f

theorem build0 : BuildC 0 := by
  intro base bb o ent pos nx n cap p hh ee f σ w h1 h2 hR hbase hbb hB hS hn ho he hnx hpos
  subst h1
  subst h2
  refine (build_leaf base bb o ent pos nx f _ σ w hR hbase hbb hB ho he hnx).mono ?_
  rintro e w' ⟨rfl, hR', hB', hM'⟩
  refine ⟨w.heap.size, _, pos, nx + ent, rfl, hR', hB', by simp [cB], by simp [nB]; omega, hM', fun y hy => upd_other _ _ _ (by omega), fun y r hy hr => ?_, upd_same _ _ _, Nat.le_refl _, rfl⟩
  by_cases e : y = w.heap.size
  · subst e; rw [upd_same] at hr; cases hr; rfl
  · rw [upd_other _ _ _ e, hR.fresh hy] at hr; cases hr

/-- The loop's state in 'build', at a node above leaves, behind k rounds. -/
structure InvB (base bb o ent pos nx N h : Nat) (f : Int) (sv : Value) (σ : Nat → Option Nd) (w : World) (k : Nat) (wr : World) (σk : Nat → Option Nd) (posk nxk : Nat) (cs es : List Nat) : Prop where
  rep : Rep base wr σk
  bat : BAt wr bb sv posk nxk
  bpos : posk ≤ pos + k * (1 + cB h)
  bnx : nxk ≤ nx + k * nB h + min k ent
  mutb : MutB base bb w wr
  old : ∀ y, y < N → σk y = σ y
  own : ∀ y r, N ≤ y → σk y = some r → r.own = o
  node : σk N = some ⟨es, cs, o⟩
  pre : k ≤ ent → Pre (Sub (nw σk (N + 1)) h) cs es nx nxk ∧ es.length = k ∧ cs.length = k
  kids : k = ent + 1 → Kids (Sub (nw σk (N + 1)) h) cs es nx nxk ∧ es.length = ent
  full : ∀ i : Nat, i < k → (i : Int) = f → ∃ s, σk (cs.getD i 0) = some s ∧ s.es.length = 31

theorem pre_getB {T : Nat → Nat → Nat → Prop} {cs es : List Nat} {lo m : Nat} (h : Pre T cs es lo m) : ∀ i, i < cs.length → ∃ a b, T (cs.getD i 0) a b := by
  induction cs generalizing es lo with
  | nil => intro i hi; simp at hi
  | cons c cs ih => cases es with
    | nil => exact h.elim
    | cons e es =>
      intro i hi
      cases i with
      | zero => exact ⟨lo, e, h.1⟩
      | succ i => exact ih h.2 i (by simpa using hi)
theorem sub_node {σ : Nat → Option Nd} {h n lo hi : Nat} (hs : Sub σ h n lo hi) : ∃ r, σ n = some r := by
  cases h with
  | zero => obtain ⟨r, h1, _⟩ := hs; exact ⟨r, h1⟩
  | succ h => obtain ⟨r, h1, _⟩ := hs; exact ⟨r, h1⟩

theorem getD_snoc (l : List Nat) (x i : Nat) (hi : i < l.length) : (l ++ [x]).getD i 0 = l.getD i 0 := by
  simp [List.getD, List.getElem?_append_left hi]
theorem getD_last (l : List Nat) (x : Nat) : (l ++ [x]).getD l.length 0 = x := by simp [List.getD]

/-- What a round makes of it: the child x made, then the entry laid (k < ent) or not (k = ent). -/
theorem InvB.step {base bb o ent pos nx N h : Nat} {f : Int} {sv : Value} {σ : Nat → Option Nd} {w : World} {k : Nat} {wr : World} {σk : Nat → Option Nd} {posk nxk : Nat} {cs es : List Nat}
    (I : InvB base bb o ent pos nx N h f sv σ w k wr σk posk nxk cs es) (hk : k ≤ ent) {wr1 w2 w3 : World} {σ1 : Nat → Option Nd} {x pos1 nx1 cnt : Nat} (hN : N < wr1.heap.size) (hsz : wr.heap.size ≤ wr1.heap.size)
    (hpos1 : pos1 ≤ posk + 1 + cB h) (hnx1 : nx1 ≤ nxk + nB h) (hold : ∀ y, y < wr1.heap.size → σ1 y = σk y) (hown : ∀ y r, wr1.heap.size ≤ y → σ1 y = some r → r.own = o)
    (hB : Built σ1 wr1.heap.size h x cnt nxk nx1 o (-1)) (hc1 : 15 ≤ cnt) (hc2 : cnt ≤ 31) (hcf : (k : Int) = f → cnt = 31) :
    (k < ent → Rep base w3 (upd (upd σ1 N ⟨es, cs ++ [x], o⟩) N ⟨es ++ [nx1], cs ++ [x], o⟩) → BAt w3 bb sv pos1 (nx1 + 1) → MutB base bb w w3 → InvB base bb o ent pos nx N h f sv σ w (k + 1) w3 (upd (upd σ1 N ⟨es, cs ++ [x], o⟩) N ⟨es ++ [nx1], cs ++ [x], o⟩) pos1 (nx1 + 1) (cs ++ [x]) (es ++ [nx1])) ∧
    (k = ent → Rep base w2 (upd σ1 N ⟨es, cs ++ [x], o⟩) → BAt w2 bb sv pos1 nx1 → MutB base bb w w2 → InvB base bb o ent pos nx N h f sv σ w (k + 1) w2 (upd σ1 N ⟨es, cs ++ [x], o⟩) pos1 nx1 (cs ++ [x]) es) := by
  obtain ⟨hpre, hel, hcl⟩ := I.pre hk
  obtain ⟨r1, hr1, hrl, hxB⟩ := hB.node
  have hsub := hB.sub hc1 hc2
  have hNx : x ≠ N := by omega
  have hb1 := I.bpos
  have hb2 := I.bnx
  have e1 : (k + 1) * (1 + cB h) = k * (1 + cB h) + (1 + cB h) := by rw [Nat.add_mul, Nat.one_mul]
  have e2 : (k + 1) * nB h = k * nB h + nB h := by rw [Nat.add_mul, Nat.one_mul]
  -- the subtrees in whatever state has σ1 above N
  have up : ∀ (σ' : Nat → Option Nd), (∀ y, y ≠ N → σ' y = σ1 y) → Pre (Sub (nw σ' (N + 1)) h) cs es nx nxk ∧ Sub (nw σ' (N + 1)) h x nxk nx1 := by
    intro σ' hσ'
    constructor
    · refine pre_mono (sub_le _ h) (fun c a b _ _ => sub_mono h c a b (fun y r hy => ?_)) hpre
      obtain ⟨q1, q2⟩ := nw_some.1 hy
      refine nw_some.2 ⟨q1, ?_⟩
      rw [hσ' y (by omega), hold y (by have := (I.rep.lt q2).2; omega)]
      exact q2
    · refine sub_mono h x nxk nx1 (fun y r hy => ?_) hsub
      obtain ⟨q1, q2⟩ := nw_some.1 hy
      exact nw_some.2 ⟨by omega, by rw [hσ' y (by omega)]; exact q2⟩
  have hfull : ∀ (σ' : Nat → Option Nd), (∀ y, y ≠ N → σ' y = σ1 y) → ∀ i : Nat, i < k + 1 → (i : Int) = f → ∃ s, σ' ((cs ++ [x]).getD i 0) = some s ∧ s.es.length = 31 := by
    intro σ' hσ' i hi hif
    by_cases e : i = k
    · have hx : (cs ++ [x]).getD i 0 = x := by rw [e, ← hcl]; exact getD_last _ _
      rw [hx, hσ' x hNx]
      exact ⟨r1, hr1, by rw [hrl]; exact hcf (by omega)⟩
    · obtain ⟨s, hs, hsl⟩ := I.full i (by omega) hif
      rw [getD_snoc _ _ _ (by omega)]
      refine ⟨s, ?_, hsl⟩
      have hne : cs.getD i 0 ≠ N := fun e => by
        obtain ⟨a, b, hab⟩ := pre_getB hpre i (by omega)
        obtain ⟨r, hr⟩ := sub_node hab
        have := (nw_some.1 hr).1
        omega
      rw [hσ' _ hne, hold _ (by have := (I.rep.lt hs).2; omega)]
      exact hs
  have hold' : ∀ (r : Nd) (y : Nat), y < N → upd σ1 N r y = σ y := fun r y hy => by
    rw [upd_other _ _ _ (by omega), hold y (by omega)]; exact I.old y hy
  have hown1 : ∀ y r, N ≤ y → y ≠ N → σ1 y = some r → r.own = o := fun y r hy hne hr => by
    by_cases hlt : y < wr1.heap.size
    · rw [hold y hlt] at hr; exact I.own y r hy hr
    · exact hown y r (by omega) hr
  have hown2 : ∀ (es' cs' : List Nat) y r, N ≤ y → upd σ1 N ⟨es', cs', o⟩ y = some r → r.own = o := fun es' cs' y r hy hr => by
    by_cases e : y = N
    · rw [e, upd_same] at hr; cases hr; rfl
    · rw [upd_other _ _ _ e] at hr; exact hown1 y r hy e hr
  have uu : upd (upd σ1 N ⟨es, cs ++ [x], o⟩) N ⟨es ++ [nx1], cs ++ [x], o⟩ = upd σ1 N ⟨es ++ [nx1], cs ++ [x], o⟩ := by funext y; unfold upd; split <;> rfl
  constructor
  · intro hlt hR hBt hM
    rw [uu] at hR ⊢
    obtain ⟨u1, u2⟩ := up (upd σ1 N ⟨es ++ [nx1], cs ++ [x], o⟩) (fun y hy => upd_other _ _ _ hy)
    refine ⟨hR, hBt, by omega, by omega, hM, hold' _, hown2 _ _, upd_same _ _ _, fun _ => ⟨pre_snoc u1 u2, by simp [hel], by simp [hcl]⟩, fun e => by omega, hfull _ (fun y hy => upd_other _ _ _ hy)⟩
  · intro heq hR hBt hM
    obtain ⟨u1, u2⟩ := up (upd σ1 N ⟨es, cs ++ [x], o⟩) (fun y hy => upd_other _ _ _ hy)
    refine ⟨hR, hBt, by omega, by omega, hM, hold' _, hown2 _ _, upd_same _ _ _, fun e => by omega, fun _ => ⟨?_, by omega⟩, hfull _ (fun y hy => upd_other _ _ _ hy)⟩
    have := (kids_split (T := Sub (nw (upd σ1 N ⟨es, cs ++ [x], o⟩) (N + 1)) h) (A := cs) (C := es) (B := []) (D := []) (c := x) (lo := nx) (hi := nx1) (by omega)).2 ⟨nxk, nx1, u1, u2, rfl⟩
    simpa using this


set_option maxHeartbeats 1000000 in
set_option maxRecDepth 100000 in
theorem build_succ (h : Nat) (hh10 : h ≤ 10) (ih : BuildC h) : BuildC (h + 1) := by
  intro base bb o ent pos nx n cap p hh ee f σ w h1 h2 hR hbase hbb hB hS hn ho he hnx hpos
  subst h1
  subst h2
  have hcB : cB (h + 1) = 32 * (1 + cB h) := rfl
  have hnB : nB (h + 1) = 31 + 32 * nB h := rfl
  rw [hcB] at hpos
  rw [hnB] at hnx
  generalize hC : cB h = C at hpos
  generalize hD : nB h = D at hnx
  have hRH := hide hR; have hbH := hide hB; have hoH := hide ho; have hSH := hide hS; have hiH := hide ih; have hCH := hide hC; have hDH := hide hD
  clear hR hB ho hS ih hC hD hcB hnB
  go_enter Try.func11, Try.ntmps11
  go_wp2_with (go_at_call 27; refine (newNode_rep base o σ _ hRH.out hbase hoH.out).mono ?_; rintro e w1 ⟨rfl, hR1, hM1⟩)
  go_loopw [12] (fun j wr => ∃ k : Nat, k ≤ ent + 1 ∧ j = .int .i64 k ∧ Hid (∃ σk posk nxk cs es, InvB base bb o ent pos nx w.heap.size h f (.slice p n cap) σ w k wr σk posk nxk cs es)) (fun j _ => ent + 1 - (intOf j).toNat)
  case atStart =>
    refine ⟨0, by omega, rfl, _, pos, nx, [], [], hR1, hM1.oth bb _ _ _ hbH.out (by decide) (by decide) (by decide), by omega, by omega, hM1.toB, fun y hy => upd_other _ _ _ (by omega), fun y r hy hr => ?_, upd_same _ _ _, fun _ => ⟨rfl, rfl, rfl⟩, fun e => by omega, fun i hi => by omega⟩
    by_cases e : y = w.heap.size
    · subst e; rw [upd_same] at hr; cases hr; rfl
    · rw [upd_other _ _ _ e, hRH.out.fresh hy] at hr; cases hr
  case round =>
    obtain ⟨k, hk, rfl, hI⟩ := hrel
    obtain ⟨σk, posk, nxk, cs, es, I⟩ := hI.out
    clear hI
    by_cases hk1 : k ≤ ent
    · obtain ⟨hpre, hel, hcl⟩ := I.pre hk1
      have q1 := I.bpos
      have q2 := I.bnx
      rw [hCH.out] at q1
      rw [hDH.out] at q2
      have q3 : k * (1 + C) ≤ 31 * (1 + C) := Nat.mul_le_mul_right _ (by omega)
      have q4 : k * D ≤ 31 * D := Nat.mul_le_mul_right _ (by omega)
      have hposk : posk < 1000000 := by omega
      have hposk2 : posk + 1 + C < 1000000 := by omega
      have hnxk2 : nxk + D ≤ 999990 := by omega
      have hNlt := (I.rep.lt I.node).2
      have hbwr : base ≤ wr.heap.size := Nat.le_trans hbase I.mutb.below.size
      have hbt := I.bat
      have hob : o ≠ bb := fun e => by
        have h1 := hoH.out
        have h2 : w.heap[bb]? = _ := hbH.out
        rw [e, h2] at h1
        simp at h1
      have how : wr.heap[o]? = some (.cells #[.int .u8 0] 47 (0, 0)) := I.mutb.oth o _ _ _ hoH.out (by decide) (by decide) (by decide) hob
      have hSw : Siz wr p n := hSH.out.keep fun b c hc => I.mutb.oth b _ _ _ hc (by decide) (by decide) (by decide) (fun e => by
        have h2 : w.heap[bb]? = _ := hbH.out
        rw [e, h2] at hc
        cases hc)
      have hbne : ∀ (b : Nat) c, wr.heap[b]? = some (.cells c 5 (0, 0)) → some b ≠ some bb := fun b c hc e => by
        cases e
        rw [hbt] at hc
        cases hc
      have hIH := hide I; have hRkH := hide I.rep; have hBtH := hide I.bat; have howH := hide how; have hSwH := hide hSw; have hbneH := hide hbne; have hnodeH := hide I.node
      clear I hpre q1 q2 q3 q4 hbt how hSw hbne
      by_cases hkf : (k : Int) = f
      · have hkf' : ((k : Int) == f) = true := by simp [hkf]
        by_cases h1 : k < ent
        · subst hkf
          go_wp2_with (first
            | (go_at_call 28; refine (count_any bb posk nxk n cap p _ hBtH.out hSwH.out hposk hn).mono ?_; rintro e w2 ⟨cnt, rfl, hc1, hc2, ⟨pos2, hpos2, hB2⟩, hg2⟩; have hR2 := Rep.grownB hRkH.out hg2 hBtH.out; have hN2 : w.heap.size < w2.heap.size := Nat.lt_of_lt_of_le hNlt hg2.size; have ho2 := (hg2.block o (lt_of_heap howH.out) (by simp [hob])).trans howH.out; have hS2 := Siz.keep hSwH.out (fun b c hc => by rw [hg2.block b (lt_of_heap hc) (hbneH.out b c hc)]; exact hc); have hb2 := Nat.le_trans hbwr hg2.size)
            | (go_at_call 11; refine (hiH.out base bb o 31 pos2 nxk n cap p _ _ _ σk _ (by omega) (by first | rfl | omega) hR2 hb2 hbb hB2 hS2 hn ho2 (by omega) (by rw [hDH.out]; omega) (by rw [hCH.out]; omega)).mono ?_; rintro e w4 ⟨x, σ4, pos4, nx4, rfl, hR4, hB4, hpos4, hnx4, hM4, hold4, hown4, hBt4⟩; have hb4 := Nat.le_trans hb2 hM4.below.size; have hn4 := (hold4 w.heap.size hN2).trans hnodeH.out; rw [hCH.out] at hpos4; rw [hDH.out] at hnx4)
            | (go_at_call 29; refine (addChild_any base w.heap.size x ⟨es, cs, o⟩ σ4 _ hR4 hn4 (by show cs.length < 100; omega) hb4).mono ?_; rintro e w5 ⟨rfl, hR5, hM5⟩; have hB5 := hM5.oth bb _ _ _ hB4 (by decide) (by decide) (by decide); have hb5 := Nat.le_trans hb4 hM5.size)
            | (go_at_call 30; refine (put_any base bb pos4 nx4 w.heap.size (.slice p n cap) ⟨es, cs ++ [x], o⟩ _ _ hR5 (upd_same _ _ _) (by show es.length < 100; omega) hb5 hbb hB5 (by omega)).mono ?_; rintro e w6 ⟨rfl, hR6, hB6, hM6⟩))
          have I := hIH.out
          have hsz2 := hg2.size
          have hfin := (I.step hk1 (wr1 := w2) (w2 := w5) (w3 := w6) (cnt := 31) hN2 hsz2 (by rw [hCH.out]; omega) (by rw [hDH.out]; omega) hold4 hown4 hBt4 (by omega) (by omega) (fun _ => rfl)).1 h1 hR6 hB6 ((I.mutb.trans (MutB.grown hg2 hbb hbwr)).trans (hM4.trans (hM5.toB.trans hM6)))
          go_roundw
          case rel => exact ⟨k + 1, by omega, by go_num, _, _, _, _, _, hfin⟩
          case measure => simp [intOf]; omega
        · subst hkf
          obtain rfl : k = ent := by omega
          go_wp2_with (first
            | (go_at_call 28; refine (count_any bb posk nxk n cap p _ hBtH.out hSwH.out hposk hn).mono ?_; rintro e w2 ⟨cnt, rfl, hc1, hc2, ⟨pos2, hpos2, hB2⟩, hg2⟩; have hR2 := Rep.grownB hRkH.out hg2 hBtH.out; have hN2 : w.heap.size < w2.heap.size := Nat.lt_of_lt_of_le hNlt hg2.size; have ho2 := (hg2.block o (lt_of_heap howH.out) (by simp [hob])).trans howH.out; have hS2 := Siz.keep hSwH.out (fun b c hc => by rw [hg2.block b (lt_of_heap hc) (hbneH.out b c hc)]; exact hc); have hb2 := Nat.le_trans hbwr hg2.size)
            | (go_at_call 11; refine (hiH.out base bb o 31 pos2 nxk n cap p _ _ _ σk _ (by omega) (by first | rfl | omega) hR2 hb2 hbb hB2 hS2 hn ho2 (by omega) (by rw [hDH.out]; omega) (by rw [hCH.out]; omega)).mono ?_; rintro e w4 ⟨x, σ4, pos4, nx4, rfl, hR4, hB4, hpos4, hnx4, hM4, hold4, hown4, hBt4⟩; have hb4 := Nat.le_trans hb2 hM4.below.size; have hn4 := (hold4 w.heap.size hN2).trans hnodeH.out; rw [hCH.out] at hpos4; rw [hDH.out] at hnx4)
            | (go_at_call 29; refine (addChild_any base w.heap.size x ⟨es, cs, o⟩ σ4 _ hR4 hn4 (by show cs.length < 100; omega) hb4).mono ?_; rintro e w5 ⟨rfl, hR5, hM5⟩; have hB5 := hM5.oth bb _ _ _ hB4 (by decide) (by decide) (by decide); have hb5 := Nat.le_trans hb4 hM5.size))
          have I := hIH.out
          have hsz2 := hg2.size
          have hfin := (I.step hk1 (wr1 := w2) (w2 := w5) (w3 := w5) (cnt := 31) hN2 hsz2 (by rw [hCH.out]; omega) (by rw [hDH.out]; omega) hold4 hown4 hBt4 (by omega) (by omega) (fun _ => rfl)).2 rfl hR5 hB5 ((I.mutb.trans (MutB.grown hg2 hbb hbwr)).trans (hM4.trans hM5.toB))
          go_roundw
          case rel => exact ⟨k + 1, by omega, by go_num, _, _, _, _, _, hfin⟩
          case measure => simp [intOf]
      · have hkf' : ((k : Int) == f) = false := by simp [hkf]
        by_cases h1 : k < ent
        · skip
          go_wp2_with (first
            | (go_at_call 28; refine (count_any bb posk nxk n cap p _ hBtH.out hSwH.out hposk hn).mono ?_; rintro e w2 ⟨cnt, rfl, hc1, hc2, ⟨pos2, hpos2, hB2⟩, hg2⟩; have hR2 := Rep.grownB hRkH.out hg2 hBtH.out; have hN2 : w.heap.size < w2.heap.size := Nat.lt_of_lt_of_le hNlt hg2.size; have ho2 := (hg2.block o (lt_of_heap howH.out) (by simp [hob])).trans howH.out; have hS2 := Siz.keep hSwH.out (fun b c hc => by rw [hg2.block b (lt_of_heap hc) (hbneH.out b c hc)]; exact hc); have hb2 := Nat.le_trans hbwr hg2.size)
            | (go_at_call 11; refine (hiH.out base bb o cnt pos2 nxk n cap p _ _ _ σk _ (by omega) (by first | rfl | omega) hR2 hb2 hbb hB2 hS2 hn ho2 (by omega) (by rw [hDH.out]; omega) (by rw [hCH.out]; omega)).mono ?_; rintro e w4 ⟨x, σ4, pos4, nx4, rfl, hR4, hB4, hpos4, hnx4, hM4, hold4, hown4, hBt4⟩; have hb4 := Nat.le_trans hb2 hM4.below.size; have hn4 := (hold4 w.heap.size hN2).trans hnodeH.out; rw [hCH.out] at hpos4; rw [hDH.out] at hnx4)
            | (go_at_call 29; refine (addChild_any base w.heap.size x ⟨es, cs, o⟩ σ4 _ hR4 hn4 (by show cs.length < 100; omega) hb4).mono ?_; rintro e w5 ⟨rfl, hR5, hM5⟩; have hB5 := hM5.oth bb _ _ _ hB4 (by decide) (by decide) (by decide); have hb5 := Nat.le_trans hb4 hM5.size)
            | (go_at_call 30; refine (put_any base bb pos4 nx4 w.heap.size (.slice p n cap) ⟨es, cs ++ [x], o⟩ _ _ hR5 (upd_same _ _ _) (by show es.length < 100; omega) hb5 hbb hB5 (by omega)).mono ?_; rintro e w6 ⟨rfl, hR6, hB6, hM6⟩))
          have I := hIH.out
          have hsz2 := hg2.size
          have hfin := (I.step hk1 (wr1 := w2) (w2 := w5) (w3 := w6) (cnt := cnt) hN2 hsz2 (by rw [hCH.out]; omega) (by rw [hDH.out]; omega) hold4 hown4 hBt4 hc1 hc2 (fun e => absurd e hkf)).1 h1 hR6 hB6 ((I.mutb.trans (MutB.grown hg2 hbb hbwr)).trans (hM4.trans (hM5.toB.trans hM6)))
          go_roundw
          case rel => exact ⟨k + 1, by omega, by go_num, _, _, _, _, _, hfin⟩
          case measure => simp [intOf]; omega
        · obtain rfl : k = ent := by omega
          go_wp2_with (first
            | (go_at_call 28; refine (count_any bb posk nxk n cap p _ hBtH.out hSwH.out hposk hn).mono ?_; rintro e w2 ⟨cnt, rfl, hc1, hc2, ⟨pos2, hpos2, hB2⟩, hg2⟩; have hR2 := Rep.grownB hRkH.out hg2 hBtH.out; have hN2 : w.heap.size < w2.heap.size := Nat.lt_of_lt_of_le hNlt hg2.size; have ho2 := (hg2.block o (lt_of_heap howH.out) (by simp [hob])).trans howH.out; have hS2 := Siz.keep hSwH.out (fun b c hc => by rw [hg2.block b (lt_of_heap hc) (hbneH.out b c hc)]; exact hc); have hb2 := Nat.le_trans hbwr hg2.size)
            | (go_at_call 11; refine (hiH.out base bb o cnt pos2 nxk n cap p _ _ _ σk _ (by omega) (by first | rfl | omega) hR2 hb2 hbb hB2 hS2 hn ho2 (by omega) (by rw [hDH.out]; omega) (by rw [hCH.out]; omega)).mono ?_; rintro e w4 ⟨x, σ4, pos4, nx4, rfl, hR4, hB4, hpos4, hnx4, hM4, hold4, hown4, hBt4⟩; have hb4 := Nat.le_trans hb2 hM4.below.size; have hn4 := (hold4 w.heap.size hN2).trans hnodeH.out; rw [hCH.out] at hpos4; rw [hDH.out] at hnx4)
            | (go_at_call 29; refine (addChild_any base w.heap.size x ⟨es, cs, o⟩ σ4 _ hR4 hn4 (by show cs.length < 100; omega) hb4).mono ?_; rintro e w5 ⟨rfl, hR5, hM5⟩; have hB5 := hM5.oth bb _ _ _ hB4 (by decide) (by decide) (by decide); have hb5 := Nat.le_trans hb4 hM5.size))
          have I := hIH.out
          have hsz2 := hg2.size
          have hfin := (I.step hk1 (wr1 := w2) (w2 := w5) (w3 := w5) (cnt := cnt) hN2 hsz2 (by rw [hCH.out]; omega) (by rw [hDH.out]; omega) hold4 hown4 hBt4 hc1 hc2 (fun e => absurd e hkf)).2 rfl hR5 hB5 ((I.mutb.trans (MutB.grown hg2 hbb hbwr)).trans (hM4.trans hM5.toB))
          go_roundw
          case rel => exact ⟨k + 1, by omega, by go_num, _, _, _, _, _, hfin⟩
          case measure => simp [intOf]
    · obtain rfl : k = ent + 1 := by omega
      have hIH := hide I
      clear I
      go_wp2_with fail
      go_ret
      have I := hIH.out
      obtain ⟨hk2, hel⟩ := I.kids rfl
      have q1 := I.bpos
      have q2 := I.bnx
      have q3 : (ent + 1) * (1 + cB h) ≤ 32 * (1 + cB h) := Nat.mul_le_mul_right _ (by omega)
      have q4 : (ent + 1) * nB h ≤ 32 * nB h := Nat.mul_le_mul_right _ (by omega)
      refine ⟨w.heap.size, σk, posk, nxk, rfl, I.rep, I.bat, by show _ ≤ pos + 32 * (1 + cB h); omega, by show _ ≤ nx + (31 + 32 * nB h); omega, I.mutb, I.old, I.own, es, cs, I.node, Nat.le_refl _, hel, ?_, fun i hif hi => I.full i (by omega) hif⟩
      exact kids_mono (sub_le _ h) (fun c a b _ _ => sub_mono h c a b (fun y r hy => nw_some.2 ⟨by have := (nw_some.1 hy).1; omega, (nw_some.1 hy).2⟩)) hk2

end Go.Proofs.Qxb6001038a
