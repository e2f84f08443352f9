/- The walk of the object reader's init. -/
import Derived.Test.YtgdghaijjhbegaaDoorBufD
namespace Go.Proofs.YtgdghaijjhbegaaDoor
open Go.RowKit
set_option maxRecDepth 100000

/-- The archive that is read: its entries' cells so far. -/
structure PArc (w : World) (A V k : Nat) (es : List Value) : Prop where
  hi : A < w.heap.size
  f1 : w.frozen? ⟨A, 1, none⟩ = false
  own : ∃ (p : Option Addr) (c : Nat), w.cell? ⟨A, 1, none⟩ = some (.slice p k c) ∧ w.ownsRow (V + 1) 62 9 (.slice p k c) k es

theorem row_cell {w : World} {R i : Nat} {L : List Value} {t : TypeId} {v : Value} (h : w.heap[R]? = some (.cells L.toArray t (0, 0))) (hv : L[i]? = some v) : w.cell? ⟨R, i, none⟩ = some v := by
  rw [cell_of_heap _ _ _ _ _ _ h]; simpa using hv
theorem row_set {w : World} {R i : Nat} {L L' : List Value} {t : TypeId} {v : Value} (h : w.heap[R]? = some (.cells L.toArray t (0, 0))) (hL : L.set i v = L') : (w.setCell ⟨R, i, none⟩ v).heap[R]? = some (.cells L'.toArray t (0, 0)) := by
  rw [heap_setCell_at w R i _ t (0, 0) _ h, ← hL]; simp

/-- The object reader's row as it is made. -/
def zrow (tmp : List Value) : List Value := [.pointer none, .pointer none, .nilIface, .int .i64 0, .int .i64 0] ++ tmp

set_option maxHeartbeats 2000000 in
theorem init_any (R F D cap : Nat) (data : List UInt8) (tmp : List Value) (w : World) (hf : PFile w F D cap data 0)
    (hrow : w.heap[R]? = some (.cells (zrow tmp).toArray 86 (0, 0))) (htl : tmp.length = 256) (hFR : F < R) :
    Calls Tryd.prog 49 #[.pointer (some ⟨R, 0, none⟩), .pointer (some ⟨F, 0, none⟩)] w
      fun x w' => x = .returned (.tuple #[]) ∧ ∃ A V U B, OAt w' R A V U B F D cap data 0 .nilIface tmp ∧ PArc w' A V 0 [] ∧ Trod (fun k => k = R ∨ k = F) w w' := by
  have hRl := (Array.getElem?_eq_some_iff.1 hrow).1
  have hdf := hf.df
  have hll := hf.ll
  have tR := fun (W : World) (i : Nat) (v : Value) => (Trod.refl (S := fun k => k = R) W).put R i (Or.inl rfl) v
  have k0 := row_cell (i := 0) (v := .pointer none) hrow rfl
  have z0 := frozen_of_heap _ R 0 _ _ hrow
  have r0 := row_set (v := .pointer (some ⟨w.heap.size, 0, none⟩)) (i := 0) hrow rfl
  have f0 := hf.trod (tR w 0 (.pointer (some ⟨w.heap.size, 0, none⟩))) (by omega) (by omega)
  have t0 := tR w 0 (.pointer (some ⟨w.heap.size, 0, none⟩))
  have hs0 : (w.setCell ⟨R, 0, none⟩ (.pointer (some ⟨w.heap.size, 0, none⟩))).heap.size = w.heap.size := by simp
  have hW0 : ∀ (W0 : World) (h : W0.heap.size = w.heap.size), Below w.heap.size W0 (W0.alloc (.cells #[.pointer (some ⟨F, 0, none⟩), .slice none 0 0] 70)) ∧ (W0.alloc (.cells #[.pointer (some ⟨F, 0, none⟩), .slice none 0 0] 70)).heap[w.heap.size]? = some (.cells #[.pointer (some ⟨F, 0, none⟩), .slice none 0 0] 70 (0, 0)) :=
    fun W0 h => ⟨(Below.refl _ _).alloc (by omega) _, by rw [← h]; exact heap_alloc_new W0 _⟩
  go_enter Tryd.func49, Tryd.ntmps49
  go_wp2_with fail
  generalize w.setCell ⟨R, 0, none⟩ (.pointer (some ⟨w.heap.size, 0, none⟩)) = W0 at *
  obtain ⟨hb1, A1⟩ := hW0 W0 hs0
  have r1 := (hb1.block R hRl).trans r0
  have f1 := f0.trod (S := fun _ => False) (Trod.of_below (hs0 ▸ hb1)) id id
  have t1 : Trod (fun k => k = R ∨ k = F) w (W0.alloc (.cells #[.pointer (some ⟨F, 0, none⟩), .slice none 0 0] 70)) := (t0.weaken fun k e => Or.inl e).trans (Trod.of_below (hs0 ▸ hb1))
  have hs1 : w.heap.size < (W0.alloc (.cells #[.pointer (some ⟨F, 0, none⟩), .slice none 0 0] 70)).heap.size := by simp; omega
  generalize W0.alloc (.cells #[.pointer (some ⟨F, 0, none⟩), .slice none 0 0] 70) = W1 at *
  clear hb1 r0 f0 t0 hs0 k0 z0 hW0
  generalize w.heap.size = A at *
  refine (FSeek_cur F D cap data 0 W1 f1 (by omega)).mono ?_
  rintro x w2 ⟨rfl, f2, t2⟩
  have r2 := (t2.block R (Array.getElem?_eq_some_iff.1 r1).1 (by omega)).trans r1
  have k3 := row_cell (i := 3) (v := .int .i64 0) r2 rfl
  have z3 := frozen_of_heap _ R 3 _ _ r2
  have r3 := row_set (v := .int .i64 0) (i := 3) r2 rfl
  have t3 := tR w2 3 (.int .i64 0)
  have f3 := f2.trod t3 (by omega) (by omega)
  have t13 := (t2.weaken (T := fun k => k = R ∨ k = F) fun k e => Or.inr e).trans (t3.weaken fun k e => Or.inl e)
  go_wp2_with fail
  generalize w2.setCell ⟨R, 3, none⟩ (.int .i64 0) = W3 at *
  clear f2 t2 r2 k3 z3 t3
  refine (FSeek_end F D cap data 0 W3 f3).mono ?_
  rintro x w4 ⟨rfl, f4, t4⟩
  have r4 := (t4.block R (Array.getElem?_eq_some_iff.1 r3).1 (by omega)).trans r3
  have k4 := row_cell (i := 4) (v := .int .i64 0) r4 rfl
  have z4 := frozen_of_heap _ R 4 _ _ r4
  have r5 := row_set (v := .int .i64 data.length) (i := 4) r4 rfl
  have t5 := tR w4 4 (.int .i64 data.length)
  have f5 := f4.trod t5 (by omega) (by omega)
  have k53 := row_cell (i := 3) (v := .int .i64 0) r5 rfl
  have t15 := t13.trans ((t4.weaken (T := fun k => k = R ∨ k = F) fun k e => Or.inr e).trans (t5.weaken fun k e => Or.inl e))
  go_wp2_with fail
  generalize w4.setCell ⟨R, 4, none⟩ (.int .i64 data.length) = W5 at *
  clear f4 t4 r4 k4 z4 t5 t13 r3 f3
  refine (FSeek_start F D cap data data.length 0 W5 f5 (by omega)).mono ?_
  rintro x w6 ⟨rfl, f6, t6⟩
  have r6 := (t6.block R (Array.getElem?_eq_some_iff.1 r5).1 (by omega)).trans r5
  have t16 := t15.trans (t6.weaken (T := fun k => k = R ∨ k = F) fun k e => Or.inr e)
  clear t6 k53 r5 f5 t15
  go_wp2_with fail
  refine (newBioReader_any F D cap data 0 w6 f6 (by omega)).mono ?_
  rintro x w7 ⟨U, B, V, rfl, hU, hBV, b7, v70, v71, hb7⟩
  have hs6 := t16.size
  have r7 := (hb7.block R (by omega)).trans r6
  have k71 := row_cell (i := 1) (v := .pointer none) r7 rfl
  have z71 := frozen_of_heap _ R 1 _ _ r7
  have r8 := row_set (v := .pointer (some ⟨V, 0, none⟩)) (i := 1) r7 rfl
  go_wp2_with fail
  go_end0
  have hfu := b7.fu
  have hub := b7.ub
  have t8 := tR w7 1 (.pointer (some ⟨V, 0, none⟩))
  have tA : Trod (fun k => k = R ∨ k = F) W1 (w7.setCell ⟨R, 1, none⟩ (.pointer (some ⟨V, 0, none⟩))) := (t16.trans (Trod.of_below hb7)).trans (t8.weaken fun k e => Or.inl e)
  have hA := (tA.block A hs1 (by omega)).trans A1
  refine ⟨rfl, A, V, U, B, ⟨?_, htl, t8.cell v70 (by show ¬ V = R; omega), t8.cell v71 (by show ¬ V = R; omega), ⟨0, 0, b7.trod t8 (by omega) (by omega) (by omega) (by omega)⟩, hFR, hRl, by omega, hBV⟩, ⟨(Array.getElem?_eq_some_iff.1 hA).1, frozen_of_heap _ _ _ _ _ hA, none, 0, ?_, World.ownsRow_nil _ _ _ _⟩, t1.trans tA⟩
  · exact r8
  · rw [cell_of_heap _ _ _ _ _ _ hA]; rfl
end Go.Proofs.YtgdghaijjhbegaaDoor
