/- The walk of the object reader's readFull. -/
import Derived.Test.YtgdghaijjhbegaaDoorObjA
import Derived.Test.YtgdghaijjhbegaaDoorErrs
namespace Go.Proofs.YtgdghaijjhbegaaDoor
open Go.RowKit
set_option maxRecDepth 100000

set_option maxHeartbeats 2000000 in
theorem readFull_ok (R A V U B F D cap n : Nat) (data : List UInt8) (pos : Nat) (tmp : List Value) (w : World) (h : OAt w R A V U B F D cap data pos .nilIface tmp) (hn : n ≤ 256) (hpos : pos + n ≤ data.length) :
    Calls Tryd.prog 70 #[.pointer (some ⟨R, 0, none⟩), .slice (some ⟨R, 5, none⟩) n 256] w
      fun x w' => x = .returned .nilIface ∧ OAt w' R A V U B F D cap data (pos + n) .nilIface (bcells ((data.drop pos).take n) ++ tmp.drop n) ∧ Trod (fun k => k = R ∨ k = U ∨ k = F ∨ k = B) w w' := by
  obtain ⟨d0, d1, d2, d3, d4⟩ := rrow_cell h.row
  obtain ⟨r, e, hb⟩ := h.b
  have hll := hb.f.ll
  have htl := h.tl
  have hfr := h.fr
  have hra := h.ra
  have hau := h.au
  have hbv := h.bv
  have hub := hb.ub
  have hdf := hb.f.df
  have q1 : ((pos : Int) + (n : Int)) ≤ (data.length : Int) := by omega
  have q2 : ¬ ((data.length : Int) < (pos : Int) + (n : Int)) := by omega
  have q3 : IntKind.i64.wrap ((pos : Int) + (n : Int)) = (pos : Int) + (n : Int) := by rw [IntKind.wrap_i64]; omega
  go_enter Tryd.func70, Tryd.ntmps70
  go_wp2
  go_region_held3 (fun W => W.cell? ⟨R, 3, none⟩ = some (.int .i64 pos) ∧ W.cell? ⟨R, 4, none⟩ = some (.int .i64 data.length)) ((first | exact ⟨d3, d4⟩ | assumption | (simp [*]; done))) (first | fail)
  have hRF := hide (ReadFull_any V U B F D cap R 5 n 256 data pos r e _ _ w.drew (hb.trod (S := fun _ => False) (Trod.drew _) id id id id) h.v1 h.row (by simp [rrow]; omega) (by omega) hn hpos (by omega) (by omega) (by omega) (by omega) (by omega) (by omega) (by omega) (by omega))
  have hxl : ((data.drop pos).take n).length = n := by rw [List.length_take, List.length_drop]; omega
  have hsp := rrow_splice A V .nilIface pos data.length tmp ((data.drop pos).take n) (by omega)
  rw [hxl] at hsp
  go_wp2_with (go_at_call 93; (with_reducible refine (hRF.out).mono ?_); rintro x w2 ⟨rfl, hb2, hg2, ht2⟩; rw [List.toList_toArray, hsp] at hg2; obtain ⟨e0, e1, e2, e3, e4⟩ := rrow_cell hg2; have ez3 := frozen_of_heap w2 R 3 _ _ hg2)
  go_ret
  have hR3 := rrow_set3 hg2 (pos + n)
  push_cast at hR3
  have htS : Trod (fun k => k = R) w2 (w2.setCell ⟨R, 3, none⟩ (.int .i64 ((pos : Int) + (n : Int)))) := Trod.set (S := fun k => k = R) (p := ⟨R, 3, none⟩) (Trod.refl w2) (Or.inl rfl) _
  have htW : Trod (fun k => k = R ∨ k = U ∨ k = F ∨ k = B) w w2 := (Trod.drew w).trans (ht2.weaken fun k e => by rcases e with e | e | e | e; exact Or.inr (Or.inl e); exact Or.inl e; exact Or.inr (Or.inr (Or.inl e)); exact Or.inr (Or.inr (Or.inr e)))
  obtain ⟨r', e', hb2⟩ := hb2
  refine ⟨rfl, ⟨hR3, by rw [List.length_append, List.length_drop, bcells_length]; omega, ?_, ?_, ⟨r', e', hb2.trod htS (by omega) (by omega) (by omega) (by omega)⟩, hfr, hra, hau, hbv⟩, Trod.set (S := fun k => k = R ∨ k = U ∨ k = F ∨ k = B) (p := ⟨R, 3, none⟩) htW (Or.inl (show R = R ∨ _ from Or.inl rfl)) _⟩
  · exact htS.cell (htW.cell h.v0 (by simp only [not_or]; refine ⟨?_, ?_, ?_, ?_⟩ <;> omega)) (by show ¬ V = R; omega)
  · exact htS.cell (htW.cell h.v1 (by simp only [not_or]; refine ⟨?_, ?_, ?_, ?_⟩ <;> omega)) (by show ¬ V = R; omega)
end Go.Proofs.YtgdghaijjhbegaaDoor

/- The walks of the object reader's error, and of its readFull where too little is left. -/
namespace Go.Proofs.YtgdghaijjhbegaaDoor
open Go.RowKit
set_option maxRecDepth 100000

set_option maxHeartbeats 1000000 in
theorem error_any (R B : Nat) (a : Addr) (w : World) (hc : w.cell? ⟨R, 2, none⟩ = some .nilIface) (hz : w.frozen? ⟨R, 2, none⟩ = false) (hE : ErrVar w B 0) (hU : ErrVar w B 1) (ha : ∃ c t, w.heap[a.block]? = some (.cells c t (0, 0))) :
    Calls Tryd.prog 68 #[.pointer (some ⟨R, 0, none⟩), .iface 133 (.pointer (some a))] w
      fun x w' => (∃ b, x = .returned (.iface 133 (.pointer (some b)))) ∧ Trod (fun k => k = R) w w' := by
  obtain ⟨ea, he, hee, _, _⟩ := hE
  obtain ⟨ua, hu, _, _, _⟩ := hU
  have hq := run_eql_errs w a ea ha hee
  have fin : ∀ v : Value, Trod (fun k => k = R) w (w.setCell ⟨R, 2, none⟩ v) := fun v => Trod.set (S := fun k => k = R) (p := ⟨R, 2, none⟩) (Trod.refl w) (Or.inl rfl) _
  clear ha hee
  by_cases h : a = ea
  · have hq1 : (decide (a = ea)) = true := by simp [h]
    rw [hq1] at hq
    clear h hq1
    go_enter Tryd.func68, Tryd.ntmps68
    go_wp2
    go_ret
    exact ⟨⟨_, rfl⟩, fin _⟩
  · have hq1 : (decide (a = ea)) = false := by simp [h]
    rw [hq1] at hq
    clear h hq1
    go_enter Tryd.func68, Tryd.ntmps68
    go_wp2
    go_ret
    exact ⟨⟨_, rfl⟩, fin _⟩

set_option maxHeartbeats 2000000 in
theorem readFull_past (R A V U B F D cap n g : Nat) (data : List UInt8) (pos : Nat) (tmp : List Value) (w : World) (h : OAt w R A V U B F D cap data pos .nilIface tmp) (hn : n ≤ 256) (hpos : data.length < pos + n) (hpl : pos ≤ data.length)
    (hE : ErrVar w g 0) (hU : ErrVar w g 1) :
    Calls Tryd.prog 70 #[.pointer (some ⟨R, 0, none⟩), .slice (some ⟨R, 5, none⟩) n 256] w
      fun x w' => (∃ b, x = .returned (.iface 133 (.pointer (some b)))) ∧ Trod (fun k => k = R) w w' := by
  obtain ⟨d0, d1, d2, d3, d4⟩ := rrow_cell h.row
  have z2 := frozen_of_heap w R 2 _ _ h.row
  obtain ⟨r, e, hb⟩ := h.b
  have hll := hb.f.ll
  have q1 : ((data.length : Int) < (pos : Int) + (n : Int)) := by omega
  have q3 : IntKind.i64.wrap ((pos : Int) + (n : Int)) = (pos : Int) + (n : Int) := by rw [IntKind.wrap_i64]; omega
  have hU' := hU
  obtain ⟨ua, hu, huu, _, _⟩ := hU
  have hER := hide (error_any R g ua w.drew d2 z2 hE hU' huu)
  clear hU'
  clear hb hE
  go_enter Tryd.func70, Tryd.ntmps70
  go_wp2
  go_region_held3 (fun W => W.cell? ⟨R, 3, none⟩ = some (.int .i64 pos) ∧ W.cell? ⟨R, 4, none⟩ = some (.int .i64 data.length)) ((first | exact ⟨d3, d4⟩ | assumption | (simp [*]; done))) (first | fail)
  go_wp2_with (go_at_call 68; (with_reducible refine (hER.out).mono ?_); rintro x w2 ⟨⟨b, rfl⟩, ht2⟩)
  go_ret
  exact ⟨⟨b, rfl⟩, (Trod.drew w).trans ht2⟩
end Go.Proofs.YtgdghaijjhbegaaDoor
