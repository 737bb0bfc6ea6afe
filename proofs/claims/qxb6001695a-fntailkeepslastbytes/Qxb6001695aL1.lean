import Derived.Test.Qxb6001695aRows
import Derived.WalkKit
import Derived.ProofKit
import Derived.Deep.RegionLaw
import Derived.Deep.OwnRows
import Derived.Laws.CopyOwn
import Derived.Laws.AppendOwn
import Derived.Laws.IdiomStrings
namespace Go.Proofs.Qxb6001695a
open Go.RowKit
set_option linter.unusedVariables false

theorem hide {p : Prop} (h : p) : Hid p := h

section
variable {P : Program}

theorem wpList_copy_run (w : World) {ops : Array Oper} {rest : List Oper} {o : Oper} {a : Act} {Q : Exit → Act → World → Prop} (hgd : o.guard = none) (d s : Operand) (t t' : TypeId)
    (ho : o.op = .call { callee := .builtin .copy, args := #[d, s], argTypes := #[t, t'] }) (v u : Value) (hd : a.eval d = v) (hs : a.eval s = u) {v' : Value} {w' : World}
    (hr : (Builtin.copy_ #[t, t'] o.type #[v, u]).run P w = .ok v' w') (h : wpList P ops Q rest (a.put o.dst v') w') : wpList P ops Q (o :: rest) a w := by
  refine wpList_plain hgd fun _ hK => ?_
  unfold Oper.wp execOp
  simp only [ho, resolve, invoke, builtin, Sem.run_bind, Sem.run_pure, Result.andThen_ok, List.map_toArray, List.map_cons, List.map_nil, hd, hs, hr]
  exact hK _ _ h

theorem wpList_append_run (w : World) {ops : Array Oper} {rest : List Oper} {o : Oper} {a : Act} {Q : Exit → Act → World → Prop} (hgd : o.guard = none) (d s : Operand) (t t' : TypeId)
    (ho : o.op = .call { callee := .builtin .append, args := #[d, s], argTypes := #[t, t'] }) (v u : Value) (hd : a.eval d = v) (hs : a.eval s = u) {v' : Value} {w' : World}
    (hr : (Builtin.append_ #[t, t'] o.type #[v, u]).run P w = .ok v' w') (h : wpList P ops Q rest (a.put o.dst v') w') : wpList P ops Q (o :: rest) a w := by
  refine wpList_plain hgd fun _ hK => ?_
  unfold Oper.wp execOp
  simp only [ho, resolve, invoke, builtin, Sem.run_bind, Sem.run_pure, Result.andThen_ok, List.map_toArray, List.map_cons, List.map_nil, hd, hs, hr]
  exact hK _ _ h

/-- As one step of a region that draws. -/
theorem step_copy_run {ops : Array Oper} {o : Oper} {a : Act} {w : World} {K : Act → World → Prop} {Q : Exit → Act → World → Prop} {E : Prop}
    (hg : o.guard = none) (d x : Operand) (dT sT : TypeId) (hop : o.op = Op.call { callee := Callee.builtin Builtin.copy, args := #[d, x], argTypes := #[dT, sT] })
    (v u : Value) (hd : a.eval d = v) (hx : a.eval x = u) {v' : Value} {w' : World} (hr : (Builtin.copy_ #[dT, sT] o.type #[v, u]).run P w = .ok v' w') (hK : K (a.put o.dst v') w') :
    if Region.wanted o (yielded ops a.tmps) = true then Oper.wp P o a w K Q else E := by
  have hw : Region.wanted o (yielded ops a.tmps) = true := by simp [Region.wanted, hg]
  rw [if_pos hw]
  unfold Oper.wp execOp
  simp only [hop, resolve, invoke, builtin, Sem.run_bind, Sem.run_pure, Result.andThen_ok, List.map_toArray, List.map_cons, List.map_nil, hd, hx, hr]
  exact hK

/-- append(row, s...), s a string, where there is room. -/
theorem run_append_string_room (w : World) (t u ty e : TypeId) (i : TypeInfo) (ht : P.underlying t = some (.slice e)) (hu : P.underlying u = some .string) (hi : P.info? e = some i) (hsz : i.size = 1)
    (g sLen sCap : Nat) (cur : Array Value) (hg : w.heap[g]? = some (.cells cur e (0, 0))) (s : ByteArray) (hroom : sLen + s.size ≤ sCap) (hfit : sLen + s.size ≤ cur.size) :
    (Builtin.append_ #[t, u] ty #[.slice (some ⟨g, 0, none⟩) sLen sCap, .string s]).run P w =
      .ok (.slice (some ⟨g, 0, none⟩) (sLen + s.size) sCap) (w.setRow g (cur.toList.take sLen ++ (s.data.toList.map fun b => Value.int .u8 (b.toNat : Int)) ++ cur.toList.drop (sLen + s.size)).toArray) := by
  have hlen : (s.data.toList.map fun b : UInt8 => Value.int .u8 (b.toNat : Int)).length = s.size := by simp
  have hst := run_storeCells_at P g sLen e (s.data.toList.map fun b => Value.int .u8 (b.toNat : Int)) 0 cur w hg (by rw [hlen]; simpa using hfit) (fun v hv => by
    simp only [List.mem_map] at hv
    obtain ⟨b, _, rfl⟩ := hv
    rfl)
  simp only [Nat.add_zero] at hst
  have hx : (Array.map (fun b : UInt8 => Value.int IntKind.u8 (b.toNat : Int)) s.data).extract 0 s.size = Array.map (fun b : UInt8 => Value.int IntKind.u8 (b.toNat : Int)) s.data := by
    have hs : s.size = (Array.map (fun b : UInt8 => Value.int IntKind.u8 (b.toNat : Int)) s.data).size := by rw [Array.size_map]; rfl
    rw [hs, Array.extract_size]
  simp [Builtin.append_, run_underlying ht, run_underlying hu, sizeOf, typeInfo, hi, hsz, Builtin.lenOf, Builtin.firstCells, hroom, hx, Addr.add_lit, hst]
end

theorem set_heap {w : World} {a : Addr} {v : Value} {b : Nat} (h : b ≠ a.block) : (w.setCell a v).heap[b]? = w.heap[b]? := Below.heap_setCell w a v b h
theorem lt_of_heap {w : World} {b : Nat} {o : Obj} (h : w.heap[b]? = some o) : b < w.heap.size := (Array.getElem?_eq_some_iff.1 h).1
theorem info8 : (Try.prog.info? 5).map (fun i => (i.zero, i.size, i.bytes)) = some (some (.int .u8 0), 1, 1) := by kernel_rfl
theorem info_one {P : Program} {t : TypeId} {z : Value} {a b : Nat} (h : (P.info? t).map (fun i => (i.zero, i.size, i.bytes)) = some (some z, a, b)) : ∃ i, P.info? t = some i ∧ i.zero = some z ∧ i.size = a ∧ i.bytes = b := by
  obtain ⟨i, hi, hzz⟩ := Option.map_eq_some_iff.1 h
  simp only [Prod.mk.injEq] at hzz
  exact ⟨i, hi, hzz.1, hzz.2.1, hzz.2.2⟩

/-- Bytes as cells. -/
def encB (bs : List UInt8) : List Value := bs.map fun b => .int .u8 (b.toNat : Int)
theorem encB_len (bs : List UInt8) : (encB bs).length = bs.length := by simp [encB]
theorem encB_append (a b : List UInt8) : encB (a ++ b) = encB a ++ encB b := by simp [encB]
theorem encB_drop (a : List UInt8) (k : Nat) : encB (a.drop k) = (encB a).drop k := by simp [encB]
theorem encB_one (a : List UInt8) : ∀ u ∈ encB a, u.oneCell' = true := fun v hv => by
  simp only [encB, List.mem_map] at hv
  obtain ⟨b, _, rfl⟩ := hv
  rfl

/-- The last 4096. -/
def tl (l : List UInt8) : List UInt8 := l.drop (l.length - 4096)
theorem tl_len (l : List UInt8) : (tl l).length = min l.length 4096 := by unfold tl; simp; omega

/-- A tail that has its row. -/
structure TailP (w : World) (T g : Nat) (bs : List UInt8) (tot : Nat) : Prop where
  blk : w.heap[T]? = some (.cells #[.slice (some ⟨g, 0, none⟩) bs.length 4096, .int .i64 tot] 28 (0, 0))
  row : ∃ cur : Array Value, w.heap[g]? = some (.cells cur 5 (0, 0)) ∧ cur.size = 4096 ∧ cur.toList.take bs.length = encB bs
  le : bs.length ≤ 4096

/-- All but T and g is left as it was. -/
structure Fr (w w' : World) (T g : Nat) : Prop where
  os : w'.os = w.os
  tape : w'.tape = w.tape
  output : w'.output = w.output
  size : w.heap.size ≤ w'.heap.size
  block : ∀ b, b < w.heap.size → b ≠ T → b ≠ g → w'.heap[b]? = w.heap[b]?

end Go.Proofs.Qxb6001695a
