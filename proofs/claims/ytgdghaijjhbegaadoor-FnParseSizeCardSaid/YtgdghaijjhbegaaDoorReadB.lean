/- The buffered reader's state, and the walk of its Read. -/
import Derived.Test.YtgdghaijjhbegaaDoorReadA
namespace Go.Proofs.YtgdghaijjhbegaaDoor
open Go.RowKit
set_option maxRecDepth 100000

/-- A buffered reader (block U) with its buffer (block B) over the file (block F): the next byte that it gives is data[pos]; r and e: what of the buffer is still to be given. -/
structure BAt (w : World) (U B F D cap : Nat) (data : List UInt8) (pos r e : Nat) : Prop where
  hi : U < w.heap.size
  c0 : w.cell? ⟨U, 0, none⟩ = some (.slice (some ⟨B, 0, none⟩) 4096 4096)
  c1 : w.cell? ⟨U, 1, none⟩ = some (.iface 46 (.pointer (some ⟨F, 0, none⟩)))
  c2 : w.cell? ⟨U, 2, none⟩ = some (.int .i64 r)
  c3 : w.cell? ⟨U, 3, none⟩ = some (.int .i64 e)
  c4 : w.cell? ⟨U, 4, none⟩ = some .nilIface
  c5 : ∃ z : Int, w.cell? ⟨U, 5, none⟩ = some (.int .i64 z)
  c6 : ∃ z : Int, w.cell? ⟨U, 6, none⟩ = some (.int .i64 z)
  fz : ∀ j, w.frozen? ⟨U, j, none⟩ = false
  row : ∃ cs, w.heap[B]? = some (.cells cs 5 (0, 0)) ∧ cs.size = 4096
  by_ : BytesAt w B r ((data.drop pos).take (e - r))
  f : PFile w F D cap data (pos + (e - r))
  re : r ≤ e
  e4 : e ≤ 4096
  pl : pos + (e - r) ≤ data.length
  fu : F < U
  ub : U < B

theorem BAt.trod {w w' : World} {U B F D cap : Nat} {data : List UInt8} {pos r e : Nat} (h : BAt w U B F D cap data pos r e) {S : Nat → Prop} (hw : Trod S w w') (hF : ¬ S F) (hD : ¬ S D) (hU : ¬ S U) (hB : ¬ S B) : BAt w' U B F D cap data pos r e := by
  obtain ⟨z5, h5⟩ := h.c5
  obtain ⟨z6, h6⟩ := h.c6
  obtain ⟨cs, hr, hc⟩ := h.row
  exact ⟨Nat.lt_of_lt_of_le h.hi hw.size, hw.cell h.c0 hU, hw.cell h.c1 hU, hw.cell h.c2 hU, hw.cell h.c3 hU, hw.cell h.c4 hU, ⟨z5, hw.cell h5 hU⟩, ⟨z6, hw.cell h6 hU⟩, fun j => hw.frozen h.hi (h.fz j) hU,
    ⟨cs, (hw.block B (Array.getElem?_eq_some_iff.1 hr).1 hB).trans hr, hc⟩, hw.bytes h.by_ hB, h.f.trod hw hF hD, h.re, h.e4, h.pl, h.fu, h.ub⟩

theorem BAt.step {w : World} {U B F D cap : Nat} {data : List UInt8} {pos r e m : Nat} (h : BAt w U B F D cap data pos r e) (hm : r + m ≤ e) :
    BAt (w.setCell ⟨U, 2, none⟩ (.int .i64 ((r : Int) + (m : Int)))) U B F D cap data (pos + m) (r + m) e := by
  obtain ⟨z5, h5⟩ := h.c5
  obtain ⟨z6, h6⟩ := h.c6
  obtain ⟨cs, hr, hc⟩ := h.row
  have hub := h.ub
  have hfu := h.fu
  have hdf := h.f.df
  have hS : Trod (fun k => k = U) w (w.setCell ⟨U, 2, none⟩ (.int .i64 ((r : Int) + (m : Int)))) := Trod.set (S := fun k => k = U) (p := ⟨U, 2, none⟩) (Trod.refl w) (Or.inl rfl) _
  have hB : ¬ B = U := by omega
  refine ⟨by simp; exact h.hi, ?_, ?_, ?_, ?_, ?_, ⟨z5, ?_⟩, ⟨z6, ?_⟩, fun j => by rw [World.frozen?_setCell]; exact h.fz j, ⟨cs, (hS.block B (Array.getElem?_eq_some_iff.1 hr).1 hB).trans hr, hc⟩, ?_, ?_, hm, h.e4, ?_, h.fu, h.ub⟩
  · rw [World.cell?_setCell_other _ _ _ _ (by simp)]; exact h.c0
  · rw [World.cell?_setCell_other _ _ _ _ (by simp)]; exact h.c1
  · exact World.cell?_setCell_same _ _ _ h.c2
  · rw [World.cell?_setCell_other _ _ _ _ (by simp)]; exact h.c3
  · rw [World.cell?_setCell_other _ _ _ _ (by simp)]; exact h.c4
  · rw [World.cell?_setCell_other _ _ _ _ (by simp)]; exact h5
  · rw [World.cell?_setCell_other _ _ _ _ (by simp)]; exact h6
  · have := (hS.bytes h.by_ hB).drop m
    have e1 : ((data.drop pos).take (e - r)).drop m = (data.drop (pos + m)).take (e - (r + m)) := by
      rw [List.drop_take, List.drop_drop]; congr 1; omega
    rw [e1] at this; exact this
  · have := h.f.trod hS (by omega) (by omega)
    rw [show pos + m + (e - (r + m)) = pos + (e - r) by omega]; exact this
  · have := h.pl; omega

theorem BAt.mark {w : World} {U B F D cap : Nat} {data : List UInt8} {pos r e : Nat} (h : BAt w U B F D cap data pos r e) {j : Nat} (hj : j = 5 ∨ j = 6) (z : Int) : BAt (w.setCell ⟨U, j, none⟩ (.int .i64 z)) U B F D cap data pos r e := by
  obtain ⟨z5, h5⟩ := h.c5
  obtain ⟨z6, h6⟩ := h.c6
  obtain ⟨cs, hr, hc⟩ := h.row
  have hub := h.ub
  have hfu := h.fu
  have hdf := h.f.df
  have hS : Trod (fun k => k = U) w (w.setCell ⟨U, j, none⟩ (.int .i64 z)) := Trod.set (S := fun k => k = U) (p := ⟨U, j, none⟩) (Trod.refl w) (Or.inl rfl) _
  have hB : ¬ B = U := by omega
  have ne : ∀ i, i ≠ j → (⟨U, j, none⟩ : Addr) ≠ ⟨U, i, none⟩ := fun i hi e => by injection e with _ e; exact hi e.symm
  have oth : ∀ i v, i ≠ j → w.cell? ⟨U, i, none⟩ = some v → (w.setCell ⟨U, j, none⟩ (.int .i64 z)).cell? ⟨U, i, none⟩ = some v := fun i v hi hc => by rw [World.cell?_setCell_other _ _ _ _ (ne i hi)]; exact hc
  refine ⟨by simp; exact h.hi, oth 0 _ (by omega) h.c0, oth 1 _ (by omega) h.c1, oth 2 _ (by omega) h.c2, oth 3 _ (by omega) h.c3, oth 4 _ (by omega) h.c4, ?_, ?_, fun j => by rw [World.frozen?_setCell]; exact h.fz j,
    ⟨cs, (hS.block B (Array.getElem?_eq_some_iff.1 hr).1 hB).trans hr, hc⟩, hS.bytes h.by_ hB, h.f.trod hS (by omega) (by omega), h.re, h.e4, h.pl, h.fu, h.ub⟩
  · rcases hj with rfl | rfl
    · exact ⟨z, World.cell?_setCell_same _ _ _ h5⟩
    · exact ⟨z5, oth 5 _ (by omega) h5⟩
  · rcases hj with rfl | rfl
    · exact ⟨z6, oth 6 _ (by omega) h6⟩
    · exact ⟨z, World.cell?_setCell_same _ _ _ h6⟩

set_option maxHeartbeats 4000000 in
theorem bRead_some (U B F D cap g s n c : Nat) (data : List UInt8) (pos r e m : Nat) (cs : Array Value) (t : TypeId) (w : World) (hb : BAt w U B F D cap data pos r e) (hg : w.heap[g]? = some (.cells cs t (0, 0))) (hn : s + n ≤ cs.size) (hn0 : 0 < n)
    (hre : r < e) (hm : m = min n (e - r)) (hgU : g ≠ U) (hgB : g ≠ B) (hgF : g ≠ F) (hgD : g ≠ D) :
    Calls Tryd.prog 155 #[.pointer (some ⟨U, 0, none⟩), .slice (some ⟨g, s, none⟩) n c] w
      fun x w' => x = .returned (.tuple #[.int .i64 m, .nilIface]) ∧ BAt w' U B F D cap data (pos + m) (r + m) e ∧ w'.heap[g]? = some (.cells (splice cs.toList s (bcells ((data.drop pos).take m))).toArray t (0, 0)) ∧ Trod (fun k => k = U ∨ k = g) w w' := by
  have c0 := hb.c0
  have c2 := hb.c2
  have c3 := hb.c3
  obtain ⟨z5, c5⟩ := hb.c5
  obtain ⟨z6, c6⟩ := hb.c6
  have hre' := hb.re
  have he4 := hb.e4
  have hxe : ((data.drop pos).take (e - r)).take m = (data.drop pos).take m := by rw [List.take_take]; congr 1; omega
  have hxl : (((data.drop pos).take (e - r)).take m).length = min (e - r) n := by rw [List.length_take, List.length_take, List.length_drop]; have := hb.pl; omega
  have hby1 : BytesAt w.drew.drew B r (((data.drop pos).take (e - r)).take m) := hb.by_.take m
  have hcp := run_copy_sl (w.drew.drew) g s n c t cs B r (e - r) (4096 - r) (((data.drop pos).take (e - r)).take m) hxl hby1 hg (by omega)
  have hxm : (((data.drop pos).take (e - r)).take m).length = m := by omega
  rw [hxm, hxe] at hcp
  rw [hxe] at hxm hby1
  have hne : ¬ (e = r) := by omega
  have hne' : ¬ (r = e) := by omega
  have hW2 : Trod (fun k => k = g) w (w.drew.drew.setRow g (splice cs.toList s (bcells ((data.drop pos).take m))).toArray) :=
    Trod.setRow (S := fun k => k = g) (show Trod _ w w.drew.drew from ⟨rfl, rfl, rfl, Nat.le_refl _, fun _ _ _ => rfl⟩) (Or.inl rfl) _
  have hgg := setRow_heap (w.drew.drew) g cs (splice cs.toList s (bcells ((data.drop pos).take m))).toArray t (0, 0) hg
  have hb2 := hb.trod hW2 (fun e => hgF e.symm) (fun e => hgD e.symm) (fun e => hgU e.symm) (fun e => hgB e.symm)
  generalize splice cs.toList s (bcells ((data.drop pos).take m)) = XX at *
  generalize hWW : w.drew.drew.setRow g XX.toArray = W2 at *
  clear hWW
  have k0 := hb2.c0
  have k2 := hb2.c2
  have k3 := hb2.c3
  obtain ⟨y5, k5⟩ := hb2.c5
  obtain ⟨y6, k6⟩ := hb2.c6
  have kz2 := hb2.fz 2
  have kz5 := hb2.fz 5
  have kz6 := hb2.fz 6
  have hm0 : 0 < m := by omega
  have hme : r + m ≤ e := by omega
  obtain ⟨i, hi⟩ : ∃ i, r + m = i + 1 := ⟨r + m - 1, by omega⟩
  obtain ⟨cl, hcl, hcl0, hcl1⟩ : ∃ x : Int, W2.cell? ⟨B, i, none⟩ = some (.int .u8 x) ∧ 0 ≤ x ∧ x < 256 := by
    have := hb2.by_ (m - 1) (by rw [List.length_take, List.length_drop]; have := hb.pl; omega)
    rw [show r + (m - 1) = i by omega] at this
    exact ⟨_, this, by omega, by have := UInt8.toNat_lt (((data.drop pos).take (e - r))[m - 1]'(by rw [List.length_take, List.length_drop]; have := hb.pl; omega)); omega⟩
  clear hxl hxm hxe hby1 hm
  have q1 : (r : Int) ≤ (e : Int) := by omega
  have q2 : (e : Int) ≤ 4096 := by omega
  have q3 : ((r : Int) + (m : Int)) ≤ 4096 := by omega
  have q4 : (r : Int) + (m : Int) - 1 = (i : Int) := by omega
  have q5 : (i : Int) < 4096 := by omega
  have q6 : i < 4096 := by omega
  have q7 : (0 : Int) ≤ (i : Int) := by omega
  have q8 : IntKind.i64.wrap (i : Int) = (i : Int) := by rw [IntKind.wrap_i64]; omega
  clear hi
  go_enter Tryd.func155, Tryd.ntmps155
  go_wp2
  go_region_held3 (fun W => W.cell? ⟨U, 2, none⟩ = some (.int .i64 r) ∧ W.cell? ⟨U, 3, none⟩ = some (.int .i64 e)) ((first | exact ⟨c2, c3⟩ | assumption | (simp [*]; done))) (first | fail)
  go_wp2
  go_region_held3 (fun W => W.cell? ⟨U, 0, none⟩ = some (.slice (some ⟨B, 0, none⟩) 4096 4096) ∧ W.cell? ⟨U, 2, none⟩ = some (.int .i64 r) ∧ W.cell? ⟨U, 3, none⟩ = some (.int .i64 e)) ((first | exact ⟨c0, c2, c3⟩ | exact ⟨k0, k2, k3⟩ | assumption | (simp [*]; done)))
    (first | (refine step_run rfl (run_copy_exec _ _ _ _ rfl rfl rfl hcp) ?_))
  go_wp2
  have hb3 := hb2.step hme
  have hW3 : Trod (fun k => k = U ∨ k = g) w (W2.setCell ⟨U, 2, none⟩ (.int .i64 ((r : Int) + (m : Int)))) := Trod.set (S := fun k => k = U ∨ k = g) (p := ⟨U, 2, none⟩) (hW2.weaken fun k e => Or.inr e) (Or.inl (Or.inl rfl)) _
  have hg3 : (W2.setCell ⟨U, 2, none⟩ (.int .i64 ((r : Int) + (m : Int)))).heap[g]? = some (.cells XX.toArray t (0, 0)) := (Below.heap_setCell W2 ⟨U, 2, none⟩ _ g hgU).trans hgg
  have hcl3 : (W2.setCell ⟨U, 2, none⟩ (.int .i64 ((r : Int) + (m : Int)))).cell? ⟨B, i, none⟩ = some (.int .u8 cl) := by
    rw [World.cell?_setCell_other _ _ _ _ (by intro e; injection e with e; have := hb2.ub; omega)]; exact hcl
  clear hcl hgg hW2 k0 k2 k3 k5 k6 kz2 kz5 kz6 hb2 hcp
  generalize W2.setCell ⟨U, 2, none⟩ (.int .i64 ((r : Int) + (m : Int))) = W3 at *
  have j0 := hb3.c0
  have j2 := hb3.c2
  push_cast at j2
  obtain ⟨x5, j5⟩ := hb3.c5
  obtain ⟨x6, j6⟩ := hb3.c6
  have jz5 := hb3.fz 5
  have jz6 := hb3.fz 6
  have q9 : IntKind.i64.wrap cl = cl := by rw [IntKind.wrap_i64]; omega
  have hb4 := hb3.mark (j := 5) (Or.inl rfl) cl
  have n0 := hb4.c0
  have n2 := hb4.c2
  push_cast at n2
  have ncl : (W3.setCell ⟨U, 5, none⟩ (.int .i64 cl)).cell? ⟨B, i, none⟩ = some (.int .u8 cl) := by
    rw [World.cell?_setCell_other _ _ _ _ (by intro e; injection e with e; have := hb3.ub; omega)]; exact hcl3
  go_region_held3 (fun W => W.cell? ⟨U, 0, none⟩ = some (.slice (some ⟨B, 0, none⟩) 4096 4096) ∧ W.cell? ⟨U, 2, none⟩ = some (.int .i64 ((r : Int) + (m : Int))) ∧ W.cell? ⟨B, i, none⟩ = some (.int .u8 cl)) ((first | exact ⟨j0, j2, hcl3⟩ | exact ⟨n0, n2, ncl⟩ | assumption | (simp [*]; done))) (first | fail)
  go_wp2
  go_ret2
  refine ⟨rfl, (hb4.mark (j := 6) (Or.inr rfl) (-1)).trod (S := fun _ => False) (Trod.drew _) id id id id, ?_, ?_⟩
  · show ((W3.setCell ⟨U, 5, none⟩ _).setCell ⟨U, 6, none⟩ _).heap[g]? = _
    rw [Below.heap_setCell _ ⟨U, 6, none⟩ _ g hgU, Below.heap_setCell _ ⟨U, 5, none⟩ _ g hgU]; exact hg3
  · refine Trod.trans ?_ (Trod.drew _)
    exact Trod.set (S := fun k => k = U ∨ k = g) (p := ⟨U, 6, none⟩) (Trod.set (S := fun k => k = U ∨ k = g) (p := ⟨U, 5, none⟩) hW3 (Or.inl (Or.inl rfl)) _) (Or.inl (Or.inl rfl)) _
end Go.Proofs.YtgdghaijjhbegaaDoor

/- The walk of the buffered reader's Read where nothing is buffered. -/
namespace Go.Proofs.YtgdghaijjhbegaaDoor
open Go.RowKit
set_option maxRecDepth 100000

/-- The buffered reader's own cells. -/
structure UAt (w : World) (U B F r e : Nat) : Prop where
  hi : U < w.heap.size
  c0 : w.cell? ⟨U, 0, none⟩ = some (.slice (some ⟨B, 0, none⟩) 4096 4096)
  c1 : w.cell? ⟨U, 1, none⟩ = some (.iface 46 (.pointer (some ⟨F, 0, none⟩)))
  c2 : w.cell? ⟨U, 2, none⟩ = some (.int .i64 r)
  c3 : w.cell? ⟨U, 3, none⟩ = some (.int .i64 e)
  c4 : w.cell? ⟨U, 4, none⟩ = some .nilIface
  c5 : ∃ z : Int, w.cell? ⟨U, 5, none⟩ = some (.int .i64 z)
  c6 : ∃ z : Int, w.cell? ⟨U, 6, none⟩ = some (.int .i64 z)
  fz : ∀ j, w.frozen? ⟨U, j, none⟩ = false

theorem BAt.u {w : World} {U B F D cap : Nat} {data : List UInt8} {pos r e : Nat} (h : BAt w U B F D cap data pos r e) : UAt w U B F r e := ⟨h.hi, h.c0, h.c1, h.c2, h.c3, h.c4, h.c5, h.c6, h.fz⟩

section
variable {w w' : World} {U B F r e : Nat}
theorem UAt.trod (h : UAt w U B F r e) {S : Nat → Prop} (hw : Trod S w w') (hU : ¬ S U) : UAt w' U B F r e := by
  obtain ⟨z5, h5⟩ := h.c5
  obtain ⟨z6, h6⟩ := h.c6
  exact ⟨Nat.lt_of_lt_of_le h.hi hw.size, hw.cell h.c0 hU, hw.cell h.c1 hU, hw.cell h.c2 hU, hw.cell h.c3 hU, hw.cell h.c4 hU, ⟨z5, hw.cell h5 hU⟩, ⟨z6, hw.cell h6 hU⟩, fun j => hw.frozen h.hi (h.fz j) hU⟩
theorem cell_oth {U i j : Nat} {v x : Value} (hi : i ≠ j) (hc : w.cell? ⟨U, i, none⟩ = some v) : (w.setCell ⟨U, j, none⟩ x).cell? ⟨U, i, none⟩ = some v := by
  rw [World.cell?_setCell_other _ _ _ _ (fun e => by injection e with _ e; exact hi e.symm)]; exact hc
theorem UAt.set2 (h : UAt w U B F r e) (r' : Nat) : UAt (w.setCell ⟨U, 2, none⟩ (.int .i64 r')) U B F r' e := by
  obtain ⟨z5, h5⟩ := h.c5
  obtain ⟨z6, h6⟩ := h.c6
  exact ⟨by simp; exact h.hi, cell_oth (by omega) h.c0, cell_oth (by omega) h.c1, World.cell?_setCell_same _ _ _ h.c2, cell_oth (by omega) h.c3, cell_oth (by omega) h.c4, ⟨z5, cell_oth (by omega) h5⟩, ⟨z6, cell_oth (by omega) h6⟩, fun j => by rw [World.frozen?_setCell]; exact h.fz j⟩
theorem UAt.set3 (h : UAt w U B F r e) (e' : Nat) : UAt (w.setCell ⟨U, 3, none⟩ (.int .i64 e')) U B F r e' := by
  obtain ⟨z5, h5⟩ := h.c5
  obtain ⟨z6, h6⟩ := h.c6
  exact ⟨by simp; exact h.hi, cell_oth (by omega) h.c0, cell_oth (by omega) h.c1, cell_oth (by omega) h.c2, World.cell?_setCell_same _ _ _ h.c3, cell_oth (by omega) h.c4, ⟨z5, cell_oth (by omega) h5⟩, ⟨z6, cell_oth (by omega) h6⟩, fun j => by rw [World.frozen?_setCell]; exact h.fz j⟩
theorem UAt.set4 (h : UAt w U B F r e) : UAt (w.setCell ⟨U, 4, none⟩ .nilIface) U B F r e := by
  obtain ⟨z5, h5⟩ := h.c5
  obtain ⟨z6, h6⟩ := h.c6
  exact ⟨by simp; exact h.hi, cell_oth (by omega) h.c0, cell_oth (by omega) h.c1, cell_oth (by omega) h.c2, cell_oth (by omega) h.c3, World.cell?_setCell_same _ _ _ h.c4, ⟨z5, cell_oth (by omega) h5⟩, ⟨z6, cell_oth (by omega) h6⟩, fun j => by rw [World.frozen?_setCell]; exact h.fz j⟩
theorem UAt.mark (h : UAt w U B F r e) {j : Nat} (hj : j = 5 ∨ j = 6) (z : Int) : UAt (w.setCell ⟨U, j, none⟩ (.int .i64 z)) U B F r e := by
  obtain ⟨z5, h5⟩ := h.c5
  obtain ⟨z6, h6⟩ := h.c6
  refine ⟨by simp; exact h.hi, cell_oth (by omega) h.c0, cell_oth (by omega) h.c1, cell_oth (by omega) h.c2, cell_oth (by omega) h.c3, cell_oth (by omega) h.c4, ?_, ?_, fun j => by rw [World.frozen?_setCell]; exact h.fz j⟩
  · rcases hj with rfl | rfl
    · exact ⟨z, World.cell?_setCell_same _ _ _ h5⟩
    · exact ⟨z5, cell_oth (by omega) h5⟩
  · rcases hj with rfl | rfl
    · exact ⟨z6, cell_oth (by omega) h6⟩
    · exact ⟨z, World.cell?_setCell_same _ _ _ h6⟩
end

theorem bytesAt_splice (w : World) (B s : Nat) (cs : Array Value) (t : TypeId) (xs : List UInt8) (hs : s ≤ cs.size) (h : w.heap[B]? = some (.cells (splice cs.toList s (bcells xs)).toArray t (0, 0))) : BytesAt w B s xs := by
  intro j hj
  rw [cell_of_heap w B (s + j) _ t (0, 0) h]
  have hl : (cs.toList.take s).length = s := by rw [List.length_take, Array.length_toList]; omega
  simp only [splice, List.getElem?_toArray]
  rw [List.getElem?_append_right (by omega), hl, List.getElem?_append_left (by rw [bcells_length]; omega)]
  simp [bcells, hj]

/-- The buffer is filled from the file: what stands then. -/
theorem BAt.filled {w w1 : World} {U B F D cap : Nat} {data : List UInt8} {pos r m : Nat} {cs : Array Value} (h : BAt w U B F D cap data pos r r) (hu : UAt w1 U B F 0 m) (hf : PFile w1 F D cap data (pos + m)) (hcs : cs.size = 4096) (hm : m ≤ 4096) (hpl : pos + m ≤ data.length)
    (hB : w1.heap[B]? = some (.cells (splice cs.toList 0 (bcells ((data.drop pos).take m))).toArray 5 (0, 0))) : BAt w1 U B F D cap data pos 0 m := by
  have hl : (bcells ((data.drop pos).take m)).length = m := by rw [bcells_length, List.length_take, List.length_drop]; omega
  exact ⟨hu.hi, hu.c0, hu.c1, hu.c2, hu.c3, hu.c4, hu.c5, hu.c6, hu.fz, ⟨_, hB, by rw [List.size_toArray, length_splice _ _ _ (by rw [hl, Array.length_toList]; omega), Array.length_toList]; exact hcs⟩, bytesAt_splice w1 B 0 cs _ _ (Nat.zero_le _) hB, hf, Nat.zero_le _, hm, hpl, h.fu, h.ub⟩
end Go.Proofs.YtgdghaijjhbegaaDoor
