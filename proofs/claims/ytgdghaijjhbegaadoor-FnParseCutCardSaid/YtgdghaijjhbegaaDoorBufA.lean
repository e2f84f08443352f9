/- The walk of the buffered reader's fill. -/
import Derived.Test.YtgdghaijjhbegaaDoorReadE
namespace Go.Proofs.YtgdghaijjhbegaaDoor
open Go.RowKit
set_option maxRecDepth 100000

theorem splice_self (w : World) (B : Nat) (cs : Array Value) (t : TypeId) (fz : Nat × Nat) (xs : List UInt8) (h : w.heap[B]? = some (.cells cs t fz)) (hx : BytesAt w B 0 xs) : splice cs.toList 0 (bcells xs) = cs.toList := by
  have hl : xs.length ≤ cs.size := by
    rcases Nat.eq_zero_or_pos xs.length with h0 | h0
    · omega
    · have := hx (xs.length - 1) (by omega)
      rw [cell_of_heap w B _ cs t fz h] at this
      have := (Array.getElem?_eq_some_iff.1 this).1
      omega
  apply List.ext_getElem?
  intro i
  simp only [splice, List.take_zero, List.nil_append, Nat.zero_add, bcells_length]
  by_cases hi : i < xs.length
  · rw [List.getElem?_append_left (by rw [bcells_length]; exact hi)]
    have := hx i hi
    rw [Nat.zero_add, cell_of_heap w B _ cs t fz h] at this
    rw [List.getElem?_eq_getElem (by rw [bcells_length]; exact hi), Array.getElem?_toList, this]
    simp [bcells]
  · rw [List.getElem?_append_right (by rw [bcells_length]; omega), bcells_length, List.getElem?_drop]
    congr 1; omega

/-- The buffer is filled: what stands then. -/
theorem BAt.of_row {w1 : World} {U B F D cap : Nat} {data : List UInt8} {pos m : Nat} {cs : Array Value} (hu : UAt w1 U B F 0 m) (hf : PFile w1 F D cap data (pos + m)) (hcs : cs.size = 4096) (hm : m ≤ 4096) (hpl : pos + m ≤ data.length)
    (hB : w1.heap[B]? = some (.cells (splice cs.toList 0 (bcells ((data.drop pos).take m))).toArray 5 (0, 0))) (hfu : F < U) (hub : U < B) : BAt w1 U B F D cap data pos 0 m := by
  have hl : (bcells ((data.drop pos).take m)).length = m := by rw [bcells_length, List.length_take, List.length_drop]; omega
  exact ⟨hu.hi, hu.c0, hu.c1, hu.c2, hu.c3, hu.c4, hu.c5, hu.c6, hu.fz, ⟨_, hB, by rw [List.size_toArray, length_splice _ _ _ (by rw [hl, Array.length_toList]; omega), Array.length_toList]; exact hcs⟩, bytesAt_splice w1 B 0 cs _ _ (Nat.zero_le _) hB, hf, Nat.zero_le _, hm, hpl, hfu, hub⟩

/-- Bytes k behind pos read into the buffer behind those that it holds. -/
theorem splice_two (L : List Value) (data : List UInt8) (pos k m : Nat) (hL : L.length = 4096) (hk : k + m ≤ 4096) (hp : pos + k + m ≤ data.length) :
    splice (splice L 0 (bcells ((data.drop pos).take k))) k (bcells ((data.drop (pos + k)).take m)) = splice L 0 (bcells ((data.drop pos).take (k + m))) := by
  have hxl : ((data.drop pos).take k).length = k := by rw [List.length_take, List.length_drop]; omega
  have hyl : ((data.drop (pos + k)).take m).length = m := by rw [List.length_take, List.length_drop]; omega
  have := splice_more L 0 ((data.drop pos).take k) ((data.drop (pos + k)).take m) (by rw [hxl, hyl]; omega)
  rw [hxl, Nat.zero_add] at this
  rw [this, List.take_add, List.drop_drop]

set_option maxHeartbeats 4000000 in
/-- fill where the buffer's beginning is what is still to be given. -/
theorem fill_zero (U B F D cap : Nat) (data : List UInt8) (pos k m : Nat) (w : World) (hb : BAt w U B F D cap data pos 0 k) (hk : k < 4096) (hpos : pos + k < data.length) (hm : m = min (4096 - k) (data.length - (pos + k))) :
    Calls Tryd.prog 91 #[.pointer (some ⟨U, 0, none⟩)] w
      fun x w' => x = .returned (.tuple #[]) ∧ BAt w' U B F D cap data pos 0 (k + m) ∧ Trod (fun k => k = U ∨ k = F ∨ k = B) w w' := by
  have c0 := hb.c0
  have c1 := hb.c1
  have c2 : w.cell? ⟨U, 2, none⟩ = some (.int .i64 0) := hb.c2
  have c3 := hb.c3
  have fz3 := hb.fz 3
  have hub := hb.ub
  have hfu := hb.fu
  have hdf := hb.f.df
  obtain ⟨cs, hBr, hBc⟩ := hb.row
  have hby : BytesAt w B 0 ((data.drop pos).take k) := hb.by_
  have hsp := splice_self w B cs _ _ _ hBr hby
  have hf0 : PFile w F D cap data (pos + k) := hb.f
  have hu0 := hb.u
  have hN1 : ∀ W, (nilAhead 332 46 (.pointer (some ⟨F, 0, none⟩)) "Read").run Tryd.prog W = .ok (some false) W := fun _ => by kernel_rfl
  have hM1 : ∀ W, (method 332 46 (.pointer (some ⟨F, 0, none⟩)) "Read").run Tryd.prog W = .ok (148, .pointer (some ⟨F, 0, none⟩)) W := fun _ => by kernel_rfl
  have hFR := hide (FRead_any F D cap B k (4096 - k) (4096 - k) data (pos + k) m cs 5 w.drew.drew (hf0.trod (S := fun _ => False) ((Trod.drew _).trans (Trod.drew _)) id id) hBr (by omega) hm hpos (by omega) (by omega))
  have hm0 : 0 < m := by omega
  have hkm : k + m ≤ 4096 := by omega
  have hpl : pos + k + m ≤ data.length := by omega
  have q0 : (k : Int) < 4096 := by omega
  have q1 : (0 : Int) < (m : Int) := by omega
  have q2 : (k : Int) + (m : Int) ≤ 4096 := by omega
  have q3 : ¬ (4096 = k) := by omega
  have q4 : (k : Int) ≤ 4096 := by omega
  clear hm
  go_enter Tryd.func91, Tryd.ntmps91
  go_wp2
  go_region_held3 (fun W => W.cell? ⟨U, 0, none⟩ = some (.slice (some ⟨B, 0, none⟩) 4096 4096) ∧ W.cell? ⟨U, 3, none⟩ = some (.int .i64 k)) ((first | exact ⟨c0, c3⟩ | assumption | (simp [*]; done))) (first | fail)
  go_wp2
  go_loopw [2] (fun s wr => s = .int .i64 100 ∧ wr = w.drew) (fun _ _ => 0)
  case atStart => exact ⟨rfl, rfl⟩
  case round =>
    obtain ⟨rfl, rfl⟩ := hrel
    go_wp2
    go_region_held3 (fun W => W.cell? ⟨U, 0, none⟩ = some (.slice (some ⟨B, 0, none⟩) 4096 4096) ∧ W.cell? ⟨U, 1, none⟩ = some (.iface 46 (.pointer (some ⟨F, 0, none⟩))) ∧ W.cell? ⟨U, 3, none⟩ = some (.int .i64 k)) ((first | exact ⟨c0, c1, c3⟩ | assumption | (simp [*]; done)))
      (first | (go_at_call 148; (with_reducible refine (hFR.out).mono ?_); rintro x w2 ⟨rfl, f2, B2, t2⟩; have u2 := hu0.trod ((Trod.drew w).trans ((Trod.drew w.drew).trans t2)) (by omega); have v0 := u2.c0; have v1 := u2.c1; have v3 := u2.c3; have vz3 := u2.fz 3))
    go_wp2
    have u5 := u2.set3 (k + m)
    push_cast at u5
    have tU : Trod (fun k => k = U) w2 (w2.setCell ⟨U, 3, none⟩ (.int .i64 ((k : Int) + (m : Int)))) := Trod.set (S := fun k => k = U) (p := ⟨U, 3, none⟩) (Trod.refl w2) (Or.inl rfl) _
    have tA : Trod (fun k => k = U ∨ k = F ∨ k = B) w (w2.setCell ⟨U, 3, none⟩ (.int .i64 ((k : Int) + (m : Int)))) := ((Trod.drew w).trans ((Trod.drew w.drew).trans (t2.weaken fun k e => Or.inr e))).trans (tU.weaken fun k e => Or.inl e)
    have f5 := f2.trod tU (by omega) (by omega)
    have B5 := (tU.block B (Array.getElem?_eq_some_iff.1 B2).1 (by omega)).trans B2
    rw [← hsp, splice_two _ _ _ _ _ (by rw [Array.length_toList]; exact hBc) hkm hpl] at B5
    rw [Nat.add_assoc] at f5 hpl
    refine bodyPost_ret (results_none rfl _ _ _) rfl ?_
    exact ⟨rfl, BAt.of_row u5 f5 hBc hkm hpl B5 hfu hub, tA⟩
end Go.Proofs.YtgdghaijjhbegaaDoor
