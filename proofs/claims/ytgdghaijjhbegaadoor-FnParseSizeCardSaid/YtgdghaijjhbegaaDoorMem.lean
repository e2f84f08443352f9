/- Laws on memory: copies into a row of bytes; an operation met by an equation of its run. -/
import Derived.Test.YtgdghaijjhbegaaDoorFmtB
import Derived.Laws.CopyOwn
import Derived.Deep.RegionLaw
import Derived.Laws.MakeOwn
import Derived.OwnWalk
namespace Go.Proofs.YtgdghaijjhbegaaDoor
open Go.RowKit
set_option maxRecDepth 100000

section
variable {P : Program} {w w' : World} {ops : Array Oper} {rest : List Oper} {o : Oper} {a : Act} {K : Act → World → Prop} {Q : Exit → Act → World → Prop} {E : Prop} {v : Value}
theorem step_run (hg : o.guard = none) (hrun : (execOp a.eval o).run P w = .ok (.value v) w') (hK : K (a.put o.dst v) w') :
    if Region.wanted o (yielded ops a.tmps) = true then Oper.wp P o a w K Q else E := by
  rw [if_pos (by simp [Region.wanted, hg])]
  unfold Oper.wp
  rw [hrun]
  exact hK
theorem wpList_run (hg : o.guard = none) (hrun : (execOp a.eval o).run P w = .ok (.value v) w') (h : wpList P ops Q rest (a.put o.dst v) w') : wpList P ops Q (o :: rest) a w := by
  refine wpList_plain hg fun K hK => ?_
  unfold Oper.wp
  rw [hrun]
  exact hK _ _ h
theorem run_copy_exec (d s : Operand) (dT sT : TypeId) (ho : o.op = .call { callee := .builtin .copy, args := #[d, s], argTypes := #[dT, sT] }) {x y : Value} (hd : a.eval d = x) (hs : a.eval s = y)
    (hrun : ∀ ty, (Builtin.copy_ #[dT, sT] ty #[x, y]).run P w = .ok v w') : (execOp a.eval o).run P w = .ok (.value v) w' := by
  simp [execOp, ho, resolve, invoke, builtin, hd, hs, hrun, Result.andThen]
theorem run_append_exec (d s : Operand) (dT sT : TypeId) (ho : o.op = .call { callee := .builtin .append, args := #[d, s], argTypes := #[dT, sT] }) {x y : Value} (hd : a.eval d = x) (hs : a.eval s = y)
    (hrun : (Builtin.append_ #[dT, sT] o.type #[x, y]).run P w = .ok v w') : (execOp a.eval o).run P w = .ok (.value v) w' := by
  simp [execOp, ho, resolve, invoke, builtin, hd, hs, hrun, Result.andThen]
end

/-- Bytes as cells. -/
def bcells (xs : List UInt8) : List Value := xs.map fun c => Value.int .u8 (c.toNat : Int)
theorem bcells_length (xs : List UInt8) : (bcells xs).length = xs.length := by simp [bcells]
theorem bcells_one (xs : List UInt8) : ∀ v ∈ bcells xs, v.oneCell' = true := by
  intro v hv
  obtain ⟨c, _, rfl⟩ := List.mem_map.1 hv
  rfl

theorem sizeOf_u8 (w : World) : (sizeOf 5).run Tryd.prog w = .ok 1 w := by kernel_rfl

theorem run_copy_str (w : World) (g off dLen dCap : Nat) (t : TypeId) (cs : Array Value) (xs : List UInt8) (hg : w.heap[g]? = some (.cells cs t (0, 0))) (hfit : off + min xs.length dLen ≤ cs.size) :
    ∀ ty, (Builtin.copy_ #[41, 9] ty #[.slice (some ⟨g, off, none⟩) dLen dCap, .string ⟨xs.toArray⟩]).run Tryd.prog w =
      .ok (.int .i64 (min xs.length dLen : Nat)) (w.setRow g (splice cs.toList off (bcells (xs.take (min xs.length dLen)))).toArray) := by
  intro ty
  have hn : (bcells (xs.take (min xs.length dLen))).length = min xs.length dLen := by rw [bcells_length, List.length_take]; omega
  have hst := run_storeCells_at Tryd.prog g off t (bcells (xs.take (min xs.length dLen))) 0 cs w hg (by rw [hn]; omega) (bcells_one _)
  have hf : ((ByteArray.mk xs.toArray).extract 0 (min xs.length dLen)).data.map (fun b => Value.int .u8 (b.toNat : Int)) = (bcells (xs.take (min xs.length dLen))).toArray := by
    rw [ByteArray.extract_mk]; simp [bcells]
  simp only [Nat.add_zero] at hst
  have hsz : (ByteArray.mk xs.toArray).size = xs.length := by simp [ByteArray.size]
  have e : List.take ((ByteArray.mk xs.toArray).size.min dLen) (xs.map fun b => Value.int IntKind.u8 (b.toNat : Int)) = bcells (xs.take (min xs.length dLen)) := by
    rw [hsz]; unfold bcells; rw [List.map_take]
  have e2 : (ByteArray.mk xs.toArray).size.min dLen = min xs.length dLen := by rw [hsz]
  simp [Builtin.copy_, run_underlying Tryd.underlying41, Builtin.lenOf, Builtin.firstCells, Result.andThen, splice, goInt]
  rw [e, hst]
  simp [e2]

/-- The same, out of bytes in memory. -/
theorem run_copy_sl (w : World) (g off dLen dCap : Nat) (t : TypeId) (cs : Array Value) (b o n c : Nat) (xs : List UInt8) (hx : xs.length = min n dLen) (hw : BytesAt w b o xs) (hg : w.heap[g]? = some (.cells cs t (0, 0))) (hfit : off + xs.length ≤ cs.size) :
    ∀ ty, (Builtin.copy_ #[41, 41] ty #[.slice (some ⟨g, off, none⟩) dLen dCap, .slice (some ⟨b, o, none⟩) n c]).run Tryd.prog w =
      .ok (.int .i64 (xs.length : Nat)) (w.setRow g (splice cs.toList off (bcells xs)).toArray) := by
  intro ty
  have hsz1 : (Tryd.prog.info? 5).map (·.size) = some 1 := by kernel_rfl
  have h := run_copy_row (P := Tryd.prog) w 41 41 ty 5 g off dLen dCap ⟨b, o, none⟩ n c cs t (bcells xs) Tryd.underlying41 hsz1 hg (by rw [bcells_length, hx])
    (fun j v hj => by
      have hjl : j < xs.length := by
        rcases Nat.lt_or_ge j xs.length with h | h
        · exact h
        · rw [List.getElem?_eq_none (by rw [bcells_length]; exact h)] at hj; cases hj
      have hadd : (⟨b, o, none⟩ : Addr).add j = ⟨b, o + j, none⟩ := by unfold Addr.add; split <;> simp_all
      rw [hadd, hw j hjl]
      simp [bcells, hjl] at hj
      rw [hj]) (by rw [bcells_length]; exact hfit) (bcells_one xs)
  rw [h, bcells_length]
  simp [splice, goInt, bcells_length]

/-- make([]byte, m). -/
theorem make_bytes (z : Int) (m : Nat) (hz : z = m) (hm : m ≤ 281474976710656) :
    ∃ cs : Array Value, cs.size = m ∧ ∀ W, (Instr.makeSlice 41 (.int .i64 z) (.int .i64 z)).run Tryd.prog W = .ok (.slice (some ⟨W.heap.size, 0, none⟩) m m) (W.alloc (.cells cs 5)) := by
  subst hz
  obtain ⟨i0, hi, hz, hsz, hby⟩ := info_parts (show (Tryd.prog.info? 5).map (fun i => (i.zero, i.size, i.bytes)) = some (some (.int .u8 0), 1, 1) by kernel_rfl)
  refine ⟨madeCells (Value.int .u8 0).cells m, ?_, fun W => ?_⟩
  · simp [madeCells]
  · rw [run_make (P := Tryd.prog) (w := W) 41 5 i0 (.int .u8 0) Tryd.underlying41 hi hz .i64 .i64 m m (by omega) (by omega) (by rw [hby]; omega) (by omega)]
    rw [hsz]; simp
end Go.Proofs.YtgdghaijjhbegaaDoor
