/- The walks of the reader of a text and of the limited reader over it, as io.Copy uses them. -/
import Derived.Test.YtgdghaijjhbegaaDoorFileA
namespace Go.Proofs.YtgdghaijjhbegaaDoor
open Go.RowKit
set_option maxRecDepth 100000

/-- The reader of the text xs, which has read i of it, in block S. -/
structure SRAt (w : World) (S : Nat) (xs : List UInt8) (i : Nat) : Prop where
  hi : S < w.heap.size
  c0 : w.cell? ⟨S, 0, none⟩ = some (.string ⟨xs.toArray⟩)
  c1 : w.cell? ⟨S, 1, none⟩ = some (.int .i64 i)
  c2 : ∃ k : Int, w.cell? ⟨S, 2, none⟩ = some (.int .i64 k)
  f1 : w.frozen? ⟨S, 1, none⟩ = false
  f2 : w.frozen? ⟨S, 2, none⟩ = false

theorem SRAt.wrote {w w' : World} {S : Nat} {xs : List UInt8} {i : Nat} (h : SRAt w S xs i) {T : Nat → Prop} {u v : Value} (hw : Wrote T w u w' v) (hT : ¬ T S) (hu : u.ownBlock ≠ some S) : SRAt w' S xs i := by
  obtain ⟨k, hk⟩ := h.c2
  exact ⟨Nat.lt_of_lt_of_le h.hi hw.size, hw.cell h.c0 hT hu, hw.cell h.c1 hT hu, ⟨k, hw.cell hk hT hu⟩, hw.frozen h.hi h.f1 hT hu, hw.frozen h.hi h.f2 hT hu⟩

theorem BytesAt.of_prefix (w : World) (g : Nat) (cs : Array Value) (t : TypeId) (fz : Nat × Nat) (ys : List UInt8) (more : List Value) (h : w.heap[g]? = some (.cells cs t fz)) (hd : cs.toList = bcells ys ++ more) : BytesAt w g 0 ys := by
  intro j hj
  rw [cell_of_heap w g (0 + j) cs t fz h]
  have : cs.toList[j]? = some (.int .u8 (ys[j].toNat : Int)) := by rw [hd, List.getElem?_append_left (by rw [bcells_length]; exact hj)]; simp [bcells, hj]
  rw [Nat.zero_add]
  simpa using this

set_option maxHeartbeats 1000000 in
theorem SRead_any (S g m mcap : Nat) (xs : List UInt8) (i : Nat) (cs : Array Value) (t : TypeId) (w : World) (hs : SRAt w S xs i) (hg : w.heap[g]? = some (.cells cs t (0, 0))) (hm : m ≤ cs.size) (hm0 : 0 < m)
    (hmi : i + m ≤ xs.length) (hx : xs.length ≤ 1099511627776) (hSg : S ≠ g) :
    Calls Tryd.prog 152 #[.pointer (some ⟨S, 0, none⟩), .slice (some ⟨g, 0, none⟩) m mcap] w
      fun e w' => e = .returned (.tuple #[.int .i64 m, .nilIface]) ∧ SRAt w' S xs (i + m) ∧ (∃ cs', w'.heap[g]? = some (.cells cs' t (0, 0)) ∧ cs'.size = cs.size) ∧ BytesAt w' g 0 ((xs.drop i).take m) ∧ ∀ v, Wrote (fun k => k = S ∨ k = g) w v w' v := by
  obtain ⟨k, c2⟩ := hs.c2
  have c0 := hs.c0
  have c1 := hs.c1
  have f1 := hs.f1
  have f2 := hs.f2
  have e1 : (ByteArray.mk xs.toArray).extract i xs.length = ⟨(xs.drop i).toArray⟩ := by
    rw [ByteArray.extract_mk, List.take_of_length_le (by rw [List.length_drop]; omega)]
  have hil : i < xs.length := by omega
  have hil1 : (i : Int) < (xs.length : Int) := by omega
  have hil2 : ¬ ((xs.length : Int) ≤ (i : Int)) := by omega
  have hil3 : ¬ (xs.length ≤ i) := by omega
  have q0 : (0 : Int) ≤ (i : Int) := by omega
  have q1 : (i : Int) ≤ (xs.length : Int) := by omega
  have hg1 : ((w.drew.setCell ⟨S, 2, none⟩ (.int .i64 (-1))).drew).heap[g]? = some (.cells cs t (0, 0)) := by
    show (w.setCell ⟨S, 2, none⟩ (.int .i64 (-1))).heap[g]? = _
    rw [Below.heap_setCell _ _ _ _ (by intro e; exact hSg e.symm)]; exact hg
  have hmin : min (xs.drop i).length m = m := by rw [List.length_drop]; omega
  have hcp := run_copy_str _ g 0 m mcap t cs (xs.drop i) hg1 (by omega)
  rw [hmin] at hcp
  have m0 : ((w.setCell ⟨S, 2, none⟩ (.int .i64 (-1))).drew.drew).cell? ⟨S, 0, none⟩ = some (.string ⟨xs.toArray⟩) := by
    show (w.setCell ⟨S, 2, none⟩ (.int .i64 (-1))).cell? _ = _
    rw [World.cell?_setCell_other _ _ _ _ (by simp)]; exact c0
  have m1 : ((w.setCell ⟨S, 2, none⟩ (.int .i64 (-1))).drew.drew).cell? ⟨S, 1, none⟩ = some (.int .i64 i) := by
    show (w.setCell ⟨S, 2, none⟩ (.int .i64 (-1))).cell? _ = _
    rw [World.cell?_setCell_other _ _ _ _ (by simp)]; exact c1
  generalize hdr : xs.drop i = ds at *
  have Hdr := hide hdr
  clear hdr
  have hw2 : ∀ k, k ≠ g → k ≠ S → ((w.setCell ⟨S, 2, none⟩ (.int .i64 (-1))).drew.drew.setRow g (splice cs.toList 0 (bcells (ds.take m))).toArray).heap[k]? = w.heap[k]? := fun k hk hS => by
    rw [setRow_other _ _ _ _ hk]; exact Below.heap_setCell w ⟨S, 2, none⟩ _ k hS
  have hSs : ((w.setCell ⟨S, 2, none⟩ (.int .i64 (-1))).drew.drew.setRow g (splice cs.toList 0 (bcells (ds.take m))).toArray).heap[S]? = (w.setCell ⟨S, 2, none⟩ (.int .i64 (-1))).heap[S]? := by
    rw [setRow_other _ _ _ _ hSg]; rfl
  have hgg : ((w.setCell ⟨S, 2, none⟩ (.int .i64 (-1))).drew.drew.setRow g (splice cs.toList 0 (bcells (ds.take m))).toArray).heap[g]? = some (.cells (splice cs.toList 0 (bcells (ds.take m))).toArray t (0, 0)) := setRow_heap _ g cs _ t (0, 0) hg1
  have hby : BytesAt ((w.setCell ⟨S, 2, none⟩ (.int .i64 (-1))).drew.drew.setRow g (splice cs.toList 0 (bcells (ds.take m))).toArray) g 0 (ds.take m) := by
    refine BytesAt.of_prefix _ g _ t (0, 0) _ (cs.toList.drop m) hgg ?_
    have hl : (bcells (ds.take m)).length = m := by rw [bcells_length, List.length_take, Nat.min_comm]; exact hmin
    simp [splice, hl]
  have hsz : ((w.setCell ⟨S, 2, none⟩ (.int .i64 (-1))).drew.drew.setRow g (splice cs.toList 0 (bcells (ds.take m))).toArray).heap.size = w.heap.size := by simp [World.setRow]
  have hfr : Wrote (fun k => k = S ∨ k = g) w (.slice none 0 0) ((w.setCell ⟨S, 2, none⟩ (.int .i64 (-1))).drew.drew.setRow g (splice cs.toList 0 (bcells (ds.take m))).toArray) (.slice none 0 0) :=
    ⟨rfl, rfl, rfl, by omega, fun k _ hk _ => hw2 k (fun e => hk (Or.inr e)) (fun e => hk (Or.inl e)), Or.inl rfl⟩
  have k1 : ((w.setCell ⟨S, 2, none⟩ (.int .i64 (-1))).drew.drew.setRow g (splice cs.toList 0 (bcells (ds.take m))).toArray).cell? ⟨S, 1, none⟩ = some (.int .i64 i) := by
    rw [World.cell?_of_block hSs, World.cell?_setCell_other _ _ _ _ (by simp)]; exact c1
  have k0 : ((w.setCell ⟨S, 2, none⟩ (.int .i64 (-1))).drew.drew.setRow g (splice cs.toList 0 (bcells (ds.take m))).toArray).cell? ⟨S, 0, none⟩ = some (.string ⟨xs.toArray⟩) := by
    rw [World.cell?_of_block hSs, World.cell?_setCell_other _ _ _ _ (by simp)]; exact c0
  have k2 : ((w.setCell ⟨S, 2, none⟩ (.int .i64 (-1))).drew.drew.setRow g (splice cs.toList 0 (bcells (ds.take m))).toArray).cell? ⟨S, 2, none⟩ = some (.int .i64 (-1)) := by
    rw [World.cell?_of_block hSs]; exact World.cell?_setCell_same _ _ _ c2
  have z1 : ((w.setCell ⟨S, 2, none⟩ (.int .i64 (-1))).drew.drew.setRow g (splice cs.toList 0 (bcells (ds.take m))).toArray).frozen? ⟨S, 1, none⟩ = false := by
    rw [World.frozen?_of_block hSs, World.frozen?_setCell]; exact f1
  have z2 : ((w.setCell ⟨S, 2, none⟩ (.int .i64 (-1))).drew.drew.setRow g (splice cs.toList 0 (bcells (ds.take m))).toArray).frozen? ⟨S, 2, none⟩ = false := by
    rw [World.frozen?_of_block hSs, World.frozen?_setCell]; exact f2
  have hcp2 : ∀ ty, (Builtin.copy_ #[41, 9] ty #[.slice (some ⟨g, 0, none⟩) m mcap, .string ⟨ds.toArray⟩]).run Tryd.prog ((w.drew.setCell ⟨S, 2, none⟩ (.int .i64 (-1))).drew) =
    .ok (.int .i64 (m : Nat)) ((w.setCell ⟨S, 2, none⟩ (.int .i64 (-1))).drew.drew.setRow g (splice cs.toList 0 (bcells (ds.take m))).toArray) := hcp
  clear hcp
  generalize (w.setCell ⟨S, 2, none⟩ (.int .i64 (-1))).drew.drew.setRow g (splice cs.toList 0 (bcells (ds.take m))).toArray = W2 at *
  go_enter Tryd.func152, Tryd.ntmps152
  go_wp2
  go_region_held3 (fun W => W.cell? ⟨S, 0, none⟩ = some (.string ⟨xs.toArray⟩) ∧ W.cell? ⟨S, 1, none⟩ = some (.int .i64 i)) ((first | assumption | (simp [*]; done))) (first | fail)
  go_wp2
  go_region_held3 (fun W => W.cell? ⟨S, 0, none⟩ = some (.string ⟨xs.toArray⟩) ∧ W.cell? ⟨S, 1, none⟩ = some (.int .i64 i)) ((first | exact ⟨m0, m1⟩ | exact ⟨k0, k1⟩ | assumption | (simp [*]; done)))
    (first | (refine step_run rfl (run_copy_exec _ _ _ _ rfl rfl rfl hcp2) ?_))
  go_wp2
  go_ret2
  refine ⟨rfl, ?_, ?_, ?_, ?_⟩
  · refine ⟨by simp; rw [hsz]; exact hs.hi, ?_, World.cell?_setCell_same _ _ _ k1, ⟨-1, ?_⟩, by rw [World.frozen?_setCell]; exact z1, by rw [World.frozen?_setCell]; exact z2⟩
    · rw [World.cell?_setCell_other _ _ _ _ (by simp)]; exact k0
    · rw [World.cell?_setCell_other _ _ _ _ (by simp)]; exact k2
  · exact ⟨_, (Below.heap_setCell W2 ⟨S, 1, none⟩ _ g (fun e => hSg e.symm)).trans hgg, by
      have hl : (bcells (ds.take m)).length = m := by rw [bcells_length, List.length_take, Nat.min_comm]; exact hmin
      simp [splice, hl]; omega⟩
  · exact fun j hj => (World.cell?_of_block (a := ⟨g, 0 + j, none⟩) (Below.heap_setCell W2 ⟨S, 1, none⟩ _ g (fun e => hSg e.symm))).trans (hby j hj)
  · exact fun v => (show Wrote (fun k => k = S ∨ k = g) w v W2 v from ⟨hfr.os, hfr.tape, hfr.output, hfr.size, fun k hk h _ => hfr.block k hk h (by simp [Value.ownBlock]), Or.inl rfl⟩).set (Or.inl (Or.inl rfl)) _
end Go.Proofs.YtgdghaijjhbegaaDoor
