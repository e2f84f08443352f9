/- The object reader's state, and the walk of its readFull. -/
import Derived.Test.YtgdghaijjhbegaaDoorReadE
namespace Go.Proofs.YtgdghaijjhbegaaDoor
open Go.RowKit
set_option maxRecDepth 100000

/-- The object reader's row: archive, reader, error, offset, limit, and 256 bytes. -/
def rrow (A V : Nat) (err : Value) (off lim : Nat) (tmp : List Value) : List Value := [.pointer (some ⟨A, 0, none⟩), .pointer (some ⟨V, 0, none⟩), err, .int .i64 off, .int .i64 lim] ++ tmp

/-- The whole reader: the object reader in block R, the archive in A, the buffered reader in U with buffer B over the file F, the reader inside in V. -/
structure OAt (w : World) (R A V U B F D cap : Nat) (data : List UInt8) (pos : Nat) (err : Value) (tmp : List Value) : Prop where
  row : w.heap[R]? = some (.cells (rrow A V err pos data.length tmp).toArray 86 (0, 0))
  tl : tmp.length = 256
  v0 : w.cell? ⟨V, 0, none⟩ = some (.pointer (some ⟨F, 0, none⟩))
  v1 : w.cell? ⟨V, 1, none⟩ = some (.pointer (some ⟨U, 0, none⟩))
  b : ∃ r e, BAt w U B F D cap data pos r e
  fr : F < R
  ra : R < A
  au : A < U
  bv : B < V
end Go.Proofs.YtgdghaijjhbegaaDoor

/- The walk of the object reader's readFull. -/
namespace Go.Proofs.YtgdghaijjhbegaaDoor
open Go.RowKit
set_option maxRecDepth 100000

theorem rrow_splice (A V : Nat) (err : Value) (off lim : Nat) (tmp : List Value) (xs : List UInt8) (_h : xs.length ≤ tmp.length) :
    splice (rrow A V err off lim tmp) 5 (bcells xs) = rrow A V err off lim (bcells xs ++ tmp.drop xs.length) := by
  simp only [splice, rrow, bcells_length]
  rw [Nat.add_comm 5 xs.length]
  simp [List.drop_succ_cons]

theorem rrow_cell {w : World} {R A V : Nat} {err : Value} {off lim : Nat} {tmp : List Value} {t : TypeId} {fz : Nat × Nat} (h : w.heap[R]? = some (.cells (rrow A V err off lim tmp).toArray t fz)) :
    w.cell? ⟨R, 0, none⟩ = some (.pointer (some ⟨A, 0, none⟩)) ∧ w.cell? ⟨R, 1, none⟩ = some (.pointer (some ⟨V, 0, none⟩)) ∧ w.cell? ⟨R, 2, none⟩ = some err ∧ w.cell? ⟨R, 3, none⟩ = some (.int .i64 off) ∧ w.cell? ⟨R, 4, none⟩ = some (.int .i64 lim) := by
  refine ⟨?_, ?_, ?_, ?_, ?_⟩ <;> (rw [cell_of_heap _ _ _ _ _ _ h]; simp [rrow])

theorem rrow_set3 {w : World} {R A V : Nat} {err : Value} {off lim : Nat} {tmp : List Value} {t : TypeId} (h : w.heap[R]? = some (.cells (rrow A V err off lim tmp).toArray t (0, 0))) (off' : Nat) :
    (w.setCell ⟨R, 3, none⟩ (.int .i64 off')).heap[R]? = some (.cells (rrow A V err off' lim tmp).toArray t (0, 0)) := by
  rw [heap_setCell_at w R 3 _ t (0, 0) _ h]
  simp [rrow]
end Go.Proofs.YtgdghaijjhbegaaDoor
