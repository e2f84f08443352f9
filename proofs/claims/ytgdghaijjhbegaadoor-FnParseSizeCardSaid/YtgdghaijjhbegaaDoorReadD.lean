/- The walk of the buffered reader's Read where nothing is buffered. -/
import Derived.Test.YtgdghaijjhbegaaDoorReadB
namespace Go.Proofs.YtgdghaijjhbegaaDoor
open Go.RowKit
set_option maxRecDepth 100000

set_option maxHeartbeats 6000000 in
theorem bRead_none (U B F D cap g s n c : Nat) (data : List UInt8) (pos r m e' : Nat) (cs : Array Value) (t : TypeId) (w : World) (hb : BAt w U B F D cap data pos r r) (hg : w.heap[g]? = some (.cells cs t (0, 0))) (hn : s + n ≤ cs.size) (hn0 : 0 < n) (hn4 : n < 4096)
    (hpos : pos < data.length) (he : e' = min 4096 (data.length - pos)) (hm : m = min n e') (hgU : g ≠ U) (hgB : g ≠ B) (hgF : g ≠ F) (hgD : g ≠ D) :
    Calls Tryd.prog 155 #[.pointer (some ⟨U, 0, none⟩), .slice (some ⟨g, s, none⟩) n c] w
      fun x w' => x = .returned (.tuple #[.int .i64 m, .nilIface]) ∧ BAt w' U B F D cap data (pos + m) (0 + m) e' ∧ w'.heap[g]? = some (.cells (splice cs.toList s (bcells ((data.drop pos).take m))).toArray t (0, 0)) ∧ Trod (fun k => k = U ∨ k = g ∨ k = F ∨ k = B) w w' := by
  have c0 := hb.c0
  have c1 := hb.c1
  have c2 := hb.c2
  have c3 := hb.c3
  have c4 := hb.c4
  have fz2 := hb.fz 2
  have fz3 := hb.fz 3
  have hub := hb.ub
  have hfu := hb.fu
  have hdf := hb.f.df
  obtain ⟨csB, hBr, hBc⟩ := hb.row
  have hN1 : ∀ W, (nilAhead 332 46 (.pointer (some ⟨F, 0, none⟩)) "Read").run Tryd.prog W = .ok (some false) W := fun _ => by kernel_rfl
  have hM1 : ∀ W, (method 332 46 (.pointer (some ⟨F, 0, none⟩)) "Read").run Tryd.prog W = .ok (148, .pointer (some ⟨F, 0, none⟩)) W := fun _ => by kernel_rfl
  have hn4' : (n : Int) < 4096 := by omega
  have hf0 : PFile w F D cap data pos := by have := hb.f; rw [Nat.sub_self, Nat.add_zero] at this; exact this
  have hm0 : 0 < m := by omega
  have hmin : m = min n (e' - 0) := by omega
  have hmn : m ≤ n := by omega
  have hme : 0 + m ≤ e' := by omega
  have he4 : e' ≤ 4096 := by omega
  have hel : pos + e' ≤ data.length := by omega
  -- the world behind the two stores
  have u1 : UAt (((w.setCell ⟨U, 2, none⟩ (.int .i64 0)).setCell ⟨U, 3, none⟩ (.int .i64 0)).drew) U B F 0 0 := ((hb.u.set2 0).set3 0).trod (S := fun _ => False) (Trod.drew _) id
  have t1 : Trod (fun k => k = U) w (((w.setCell ⟨U, 2, none⟩ (.int .i64 0)).setCell ⟨U, 3, none⟩ (.int .i64 0)).drew) :=
    (Trod.set (S := fun k => k = U) (p := ⟨U, 3, none⟩) (Trod.set (S := fun k => k = U) (p := ⟨U, 2, none⟩) (Trod.refl w) (Or.inl rfl) _) (Or.inl rfl) _).trans (Trod.drew _)
  have f1 := hf0.trod t1 (by omega) (by omega)
  have B1 := (t1.block B (Array.getElem?_eq_some_iff.1 hBr).1 (by omega)).trans hBr
  have hgl := (Array.getElem?_eq_some_iff.1 hg).1
  have g1 := (t1.block g hgl hgU).trans hg
  have he0 : (0 : Int) < (e' : Int) := by omega
  have he1 : ¬ ((e' : Int) < 0) := by omega
  have he2 : ((e' : Int) == 0) = false := by simp; omega
  have He := hide he
  have Hmin := hide hmin
  clear he hm hmin
  go_enter Tryd.func155, Tryd.ntmps155
  go_wp2
  go_region_held3 (fun W => W.cell? ⟨U, 2, none⟩ = some (.int .i64 r) ∧ W.cell? ⟨U, 3, none⟩ = some (.int .i64 r)) ((first | exact ⟨c2, c3⟩ | assumption | (simp [*]; done))) (first | fail)
  go_wp2
  generalize ((w.setCell ⟨U, 2, none⟩ (.int .i64 0)).setCell ⟨U, 3, none⟩ (.int .i64 0)).drew = W1 at *
  have hFR := hide (FRead_any F D cap B 0 4096 4096 data pos e' csB 5 W1.drew (f1.trod (S := fun _ => False) (Trod.drew _) id id) B1 (by omega) He.out hpos (by omega) (by omega))
  have a0 := u1.c0
  have a1 := u1.c1
  go_region_held3 (fun W => W.cell? ⟨U, 0, none⟩ = some (.slice (some ⟨B, 0, none⟩) 4096 4096) ∧ W.cell? ⟨U, 1, none⟩ = some (.iface 46 (.pointer (some ⟨F, 0, none⟩)))) ((first | exact ⟨a0, a1⟩ | (constructor <;> assumption) | (simp [*]; done)))
    (first | (go_at_call 148; (with_reducible refine (hFR.out).mono ?_); rintro x w2 ⟨rfl, f2, B2, t2⟩; have u2 := u1.trod (Trod.trans (Trod.drew W1) t2) (by omega); have v0 := u2.c0; have v1 := u2.c1; have v4 := u2.c4; have z4 := u2.fz 4; have u3 := u2.set4; have y0 := u3.c0; have y1 := u3.c1; have y3 := u3.c3; have yz3 := u3.fz 3))
  go_wp2
  have u5 := u3.set3 e'
  have t5 : Trod (fun k => k = U ∨ k = F ∨ k = B) w ((w2.setCell ⟨U, 4, none⟩ .nilIface).setCell ⟨U, 3, none⟩ (.int .i64 (e' : Nat))) :=
    Trod.set (S := fun k => k = U ∨ k = F ∨ k = B) (p := ⟨U, 3, none⟩) (Trod.set (S := fun k => k = U ∨ k = F ∨ k = B) (p := ⟨U, 4, none⟩) ((t1.weaken fun k e => Or.inl e).trans ((Trod.drew W1).trans (t2.weaken fun k e => Or.inr e))) (Or.inl (Or.inl rfl)) _) (Or.inl (Or.inl rfl)) _
  have tU : Trod (fun k => k = U) w2 ((w2.setCell ⟨U, 4, none⟩ .nilIface).setCell ⟨U, 3, none⟩ (.int .i64 (e' : Nat))) :=
    Trod.set (S := fun k => k = U) (p := ⟨U, 3, none⟩) (Trod.set (S := fun k => k = U) (p := ⟨U, 4, none⟩) (Trod.refl w2) (Or.inl rfl) _) (Or.inl rfl) _
  have f5 := f2.trod tU (by omega) (by omega)
  have B5 := (tU.block B (Array.getElem?_eq_some_iff.1 B2).1 (by omega)).trans B2
  have hb5 := hb.filled u5 f5 hBc he4 hel B5
  have g5 := (t5.block g hgl (by simp only [not_or]; exact ⟨hgU, hgF, hgB⟩)).trans hg
  clear u1 a0 a1 u2 v0 v1 v4 z4 u3 y0 y1 y3 yz3 hFR f1 f2 B1 B2 t1 t2 tU f5 g1 B5
  generalize (w2.setCell ⟨U, 4, none⟩ .nilIface).setCell ⟨U, 3, none⟩ (.int .i64 (e' : Nat)) = W5 at *
  have d0 := hb5.c0
  have d2 := hb5.c2
  have d3 := hb5.c3
  have hxe : ((data.drop pos).take (e' - 0)).take m = (data.drop pos).take m := by rw [List.take_take]; congr 1; omega
  have hxm : (((data.drop pos).take (e' - 0)).take m).length = m := by rw [List.length_take, List.length_take, List.length_drop]; omega
  have hcp := run_copy_sl (W5.drew) g s n c t cs B 0 e' 4096 (((data.drop pos).take (e' - 0)).take m) (by rw [hxm]; have := Hmin.out; omega) (hb5.by_.take m) g5 (by rw [hxm]; omega)
  rw [hxm, hxe] at hcp
  have hW2 : Trod (fun k => k = U ∨ k = g ∨ k = F ∨ k = B) w (W5.drew.setRow g (splice cs.toList s (bcells ((data.drop pos).take m))).toArray) :=
    Trod.setRow (S := fun k => k = U ∨ k = g ∨ k = F ∨ k = B) ((t5.weaken fun k e => by rcases e with e | e | e; exact Or.inl e; exact Or.inr (Or.inr (Or.inl e)); exact Or.inr (Or.inr (Or.inr e))).trans (Trod.drew W5)) (Or.inl (Or.inr (Or.inl rfl))) _
  have hgg := setRow_heap (W5.drew) g cs (splice cs.toList s (bcells ((data.drop pos).take m))).toArray t (0, 0) g5
  have hb2 := hb5.trod (S := fun k => k = g) (Trod.setRow (S := fun k => k = g) (Trod.drew W5) (Or.inl rfl) (splice cs.toList s (bcells ((data.drop pos).take m))).toArray) (fun e => hgF e.symm) (fun e => hgD e.symm) (fun e => hgU e.symm) (fun e => hgB e.symm)
  generalize hXX : splice cs.toList s (bcells ((data.drop pos).take m)) = XX at *
  have HXX := hide hXX
  clear hXX
  generalize hWW : W5.drew.setRow g XX.toArray = W2 at *
  clear hWW
  have k0 := hb2.c0
  have k2 := hb2.c2
  have k3 := hb2.c3
  have kz2 := hb2.fz 2
  obtain ⟨i, hi⟩ : ∃ i, m = i + 1 := ⟨m - 1, by omega⟩
  obtain ⟨cl, hcl, hcl0, hcl1⟩ : ∃ x : Int, W2.cell? ⟨B, i, none⟩ = some (.int .u8 x) ∧ 0 ≤ x ∧ x < 256 := by
    have := hb2.by_ i (by rw [List.length_take, List.length_drop]; omega)
    rw [show 0 + i = i by omega] at this
    exact ⟨_, this, by omega, by have := UInt8.toNat_lt (((data.drop pos).take (e' - 0))[i]'(by rw [List.length_take, List.length_drop]; omega)); omega⟩
  clear hxm hxe
  have q2 : (e' : Int) ≤ 4096 := by omega
  have q3 : (m : Int) ≤ 4096 := by omega
  have q4 : (m : Int) - 1 = (i : Int) := by omega
  have q5 : (i : Int) < 4096 := by omega
  have q6 : i < 4096 := by omega
  have q7 : (0 : Int) ≤ (i : Int) := by omega
  have q8 : IntKind.i64.wrap (i : Int) = (i : Int) := by rw [IntKind.wrap_i64]; omega
  clear hi
  go_region_held3 (fun W => W.cell? ⟨U, 0, none⟩ = some (.slice (some ⟨B, 0, none⟩) 4096 4096) ∧ W.cell? ⟨U, 2, none⟩ = some (.int .i64 0) ∧ W.cell? ⟨U, 3, none⟩ = some (.int .i64 e')) ((first | exact ⟨d0, d2, d3⟩ | exact ⟨k0, k2, k3⟩ | assumption | (simp [*]; done)))
    (first | (refine step_run rfl (run_copy_exec _ _ _ _ rfl rfl rfl hcp) ?_))
  go_wp2
  have hb3 := hb2.step hme
  rw [show (((0 : Nat) : Int) + (m : Int)) = (m : Int) by simp] at hb3
  have hW3 : Trod (fun k => k = U ∨ k = g ∨ k = F ∨ k = B) w (W2.setCell ⟨U, 2, none⟩ (.int .i64 (m : Int))) := Trod.set (S := fun k => k = U ∨ k = g ∨ k = F ∨ k = B) (p := ⟨U, 2, none⟩) hW2 (Or.inl (Or.inl rfl)) _
  have hg3 : (W2.setCell ⟨U, 2, none⟩ (.int .i64 (m : Int))).heap[g]? = some (.cells XX.toArray t (0, 0)) := (Below.heap_setCell W2 ⟨U, 2, none⟩ _ g hgU).trans hgg
  have hcl3 : (W2.setCell ⟨U, 2, none⟩ (.int .i64 (m : Int))).cell? ⟨B, i, none⟩ = some (.int .u8 cl) := by
    rw [World.cell?_setCell_other _ _ _ _ (by intro e; injection e with e; omega)]; exact hcl
  clear hcl hgg hW2 k0 k2 k3 kz2 hb2 hcp
  generalize W2.setCell ⟨U, 2, none⟩ (.int .i64 (m : Int)) = W3 at *
  have j0 := hb3.c0
  have j2 := hb3.c2
  rw [Nat.zero_add] at j2
  obtain ⟨x5, j5⟩ := hb3.c5
  obtain ⟨x6, j6⟩ := hb3.c6
  have jz5 := hb3.fz 5
  have jz6 := hb3.fz 6
  have q9 : IntKind.i64.wrap cl = cl := by rw [IntKind.wrap_i64]; omega
  have hb4 := hb3.mark (j := 5) (Or.inl rfl) cl
  have n0 := hb4.c0
  have n2 := hb4.c2
  rw [Nat.zero_add] at n2
  have ncl : (W3.setCell ⟨U, 5, none⟩ (.int .i64 cl)).cell? ⟨B, i, none⟩ = some (.int .u8 cl) := by
    rw [World.cell?_setCell_other _ _ _ _ (by intro e; injection e with e; omega)]; exact hcl3
  go_region_held3 (fun W => W.cell? ⟨U, 0, none⟩ = some (.slice (some ⟨B, 0, none⟩) 4096 4096) ∧ W.cell? ⟨U, 2, none⟩ = some (.int .i64 m) ∧ W.cell? ⟨B, i, none⟩ = some (.int .u8 cl)) ((first | exact ⟨j0, j2, hcl3⟩ | exact ⟨n0, n2, ncl⟩ | assumption | (simp [*]; done))) (first | fail)
  go_wp2
  go_ret2
  refine ⟨rfl, (hb4.mark (j := 6) (Or.inr rfl) (-1)).trod (S := fun _ => False) (Trod.drew _) id id id id, ?_, ?_⟩
  · show ((W3.setCell ⟨U, 5, none⟩ _).setCell ⟨U, 6, none⟩ _).heap[g]? = _
    rw [Below.heap_setCell _ ⟨U, 6, none⟩ _ g hgU, Below.heap_setCell _ ⟨U, 5, none⟩ _ g hgU, HXX.out]; exact hg3
  · refine Trod.trans ?_ (Trod.drew _)
    exact Trod.set (S := fun k => k = U ∨ k = g ∨ k = F ∨ k = B) (p := ⟨U, 6, none⟩) (Trod.set (S := fun k => k = U ∨ k = g ∨ k = F ∨ k = B) (p := ⟨U, 5, none⟩) hW3 (Or.inl (Or.inl rfl)) _) (Or.inl (Or.inl rfl)) _

/-- The buffered reader's Read, whatever is buffered. -/
theorem bRead_any (U B F D cap g s n c : Nat) (data : List UInt8) (pos r e : Nat) (cs : Array Value) (t : TypeId) (w : World) (hb : BAt w U B F D cap data pos r e) (hg : w.heap[g]? = some (.cells cs t (0, 0))) (hn : s + n ≤ cs.size) (hn0 : 0 < n) (hn4 : n < 4096)
    (hpos : pos < data.length) (hgU : g ≠ U) (hgB : g ≠ B) (hgF : g ≠ F) (hgD : g ≠ D) :
    ∃ m r' e', 0 < m ∧ m ≤ n ∧ pos + m ≤ data.length ∧ Calls Tryd.prog 155 #[.pointer (some ⟨U, 0, none⟩), .slice (some ⟨g, s, none⟩) n c] w
      fun x w' => x = .returned (.tuple #[.int .i64 m, .nilIface]) ∧ BAt w' U B F D cap data (pos + m) r' e' ∧ w'.heap[g]? = some (.cells (splice cs.toList s (bcells ((data.drop pos).take m))).toArray t (0, 0)) ∧ Trod (fun k => k = U ∨ k = g ∨ k = F ∨ k = B) w w' := by
  have hre := hb.re
  have hpl := hb.pl
  by_cases h : r < e
  · refine ⟨min n (e - r), r + min n (e - r), e, by omega, by omega, by omega, (bRead_some U B F D cap g s n c data pos r e _ cs t w hb hg hn hn0 h rfl hgU hgB hgF hgD).mono ?_⟩
    rintro x w' ⟨h1, h2, h3, h4⟩
    exact ⟨h1, h2, h3, h4.weaken fun k e => e.elim Or.inl fun e => Or.inr (Or.inl e)⟩
  · obtain rfl : r = e := by omega
    exact ⟨min n (min 4096 (data.length - pos)), 0 + min n (min 4096 (data.length - pos)), min 4096 (data.length - pos), by omega, by omega, by omega, bRead_none U B F D cap g s n c data pos r _ _ cs t w hb hg hn hn0 hn4 hpos rfl rfl hgU hgB hgF hgD⟩
end Go.Proofs.YtgdghaijjhbegaaDoor
