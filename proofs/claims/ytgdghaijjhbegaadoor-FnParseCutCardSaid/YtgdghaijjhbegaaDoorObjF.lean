/- The walks of the object reader's peek and skip. -/
import Derived.Test.YtgdghaijjhbegaaDoorObjE
namespace Go.Proofs.YtgdghaijjhbegaaDoor
open Go.RowKit
set_option maxRecDepth 100000

set_option maxHeartbeats 2000000 in
theorem peek_ok (R A V U B F D cap : Nat) (data : List UInt8) (pos : Nat) (tmp : List Value) (w : World) (h : OAt w R A V U B F D cap data pos .nilIface tmp) (hpos : pos + 8 ≤ data.length) :
    Calls Tryd.prog 50 #[.pointer (some ⟨R, 0, none⟩), .int .i64 8] w
      fun x w' => ∃ r', x = .returned (.tuple #[.slice (some ⟨B, r', none⟩) 8 (4096 - r'), .nilIface]) ∧ OAt w' R A V U B F D cap data pos .nilIface tmp ∧ BytesAt w' B r' ((data.drop pos).take 8) ∧ Trod (fun k => k = U ∨ k = F ∨ k = B) w w' := by
  obtain ⟨d0, d1, d2, d3, d4⟩ := rrow_cell h.row
  obtain ⟨r, e, hb⟩ := h.b
  have v1 := h.v1
  have hfr := h.fr
  have hra := h.ra
  have hau := h.au
  have hbv := h.bv
  have hub := hb.ub
  have q1 : (pos : Int) < (data.length : Int) := by omega
  have hP := hide (Peek_any U B F D cap data pos r e w.drew (hb.trod (S := fun _ => False) (Trod.drew _) id id id id) hpos)
  go_enter Tryd.func50, Tryd.ntmps50
  go_wp2
  go_region_held3 (fun W => W.cell? ⟨R, 3, none⟩ = some (.int .i64 pos) ∧ W.cell? ⟨R, 4, none⟩ = some (.int .i64 data.length)) ((first | exact ⟨d3, d4⟩ | assumption | (simp [*]; done))) (first | fail)
  go_wp2_with (go_at_call 69; (with_reducible refine (hP.out).mono ?_); rintro x w2 ⟨r', e', rfl, hb2, hre2, ht2⟩)
  go_ret2
  have htA : Trod (fun k => k = U ∨ k = F ∨ k = B) w w2 := (Trod.drew w).trans ht2
  have hby := hb2.by_.take 8
  rw [List.take_take, show min 8 (e' - r') = 8 by omega] at hby
  refine ⟨r', rfl, ⟨(htA.block R (Array.getElem?_eq_some_iff.1 h.row).1 (by omega)).trans h.row, h.tl, htA.cell h.v0 (by show ¬ (V = U ∨ V = F ∨ V = B); omega), htA.cell h.v1 (by show ¬ (V = U ∨ V = F ∨ V = B); omega), ⟨r', e', hb2⟩, h.fr, h.ra, h.au, h.bv⟩, hby, htA⟩

theorem arr256 (W : World) (R n : Nat) (hn : n ≤ 256) : (Instr.sliceAt 84 (.pointer (some ⟨R, 5, none⟩)) none (some (.int .i64 n)) none).run Tryd.prog W = .ok (.slice (some ⟨R, 5, none⟩) n 256) W := by
  have hn2 : Tryd.prog.arrayLen 84 = 256 := by kernel_rfl
  have h := run_sliceAt_array_h (P := Tryd.prog) W 84 ⟨R, 5, none⟩ Tryd.underlying84 .i64 n (by omega) (by rw [hn2]; omega)
  have hs : (sizeOf (Tryd.prog.elem 84)).run Tryd.prog W = .ok 1 W := by kernel_rfl
  rw [h, hs, hn2]
  simp [Result.andThen, slicedAt]
  rfl
theorem arr256_all (W : World) (R : Nat) : (Instr.sliceAt 84 (.pointer (some ⟨R, 5, none⟩)) none none none).run Tryd.prog W = .ok (.slice (some ⟨R, 5, none⟩) 256 256) W := by
  have hn2 : Tryd.prog.arrayLen 84 = 256 := by kernel_rfl
  have h := run_sliceAt_array_all (P := Tryd.prog) W 84 ⟨R, 5, none⟩ Tryd.underlying84
  have hs : (sizeOf (Tryd.prog.elem 84)).run Tryd.prog W = .ok 1 W := by kernel_rfl
  rw [h, hs, hn2]
  simp [Result.andThen, slicedAt]
  rfl

set_option maxHeartbeats 2000000 in
theorem skip_small (R A V U B F D cap n : Nat) (data : List UInt8) (pos : Nat) (tmp : List Value) (w : World) (h : OAt w R A V U B F D cap data pos .nilIface tmp) (hn : n < 256) (hpos : pos + n ≤ data.length) :
    Calls Tryd.prog 74 #[.pointer (some ⟨R, 0, none⟩), .int .i64 n] w
      fun x w' => x = .returned (.tuple #[]) ∧ (∃ tmp', OAt w' R A V U B F D cap data (pos + n) .nilIface tmp') ∧ Trod (fun k => k = R ∨ k = U ∨ k = F ∨ k = B) w w' := by
  have hR := hide (readFull_ok R A V U B F D cap n data pos tmp w h (by omega) hpos)
  have hsl := fun W => arr256 W R n (by omega)
  have hn' : (n : Int) < 256 := by omega
  go_enter Tryd.func74, Tryd.ntmps74
  go_wp2_with (go_at_call 70; (with_reducible refine (hR.out).mono ?_); rintro x w2 ⟨rfl, h2, t2⟩)
  go_end0
  exact ⟨rfl, ⟨_, h2⟩, t2⟩

theorem OAt.quiet {w w' : World} {R A V U B F D cap : Nat} {data : List UInt8} {pos : Nat} {err : Value} {tmp : List Value} (h : OAt w R A V U B F D cap data pos err tmp) (ht : Trod (fun _ => False) w w') : OAt w' R A V U B F D cap data pos err tmp := by
  obtain ⟨r, e, hb⟩ := h.b
  exact ⟨(ht.block R (Array.getElem?_eq_some_iff.1 h.row).1 id).trans h.row, h.tl, ht.cell h.v0 id, ht.cell h.v1 id, ⟨r, e, hb.trod ht id id id id⟩, h.fr, h.ra, h.au, h.bv⟩

set_option maxHeartbeats 4000000 in
theorem skip_buf (R A V U B F D cap n r e : Nat) (data : List UInt8) (pos : Nat) (tmp : List Value) (w : World) (h : OAt w R A V U B F D cap data pos .nilIface tmp) (hb : BAt w U B F D cap data pos r e) (hn : 256 ≤ n) (hne : n ≤ e - r) (hpos : pos + n ≤ data.length) :
    Calls Tryd.prog 74 #[.pointer (some ⟨R, 0, none⟩), .int .i64 n] w
      fun x w' => x = .returned (.tuple #[]) ∧ (∃ tmp', OAt w' R A V U B F D cap data (pos + n) .nilIface tmp') ∧ Trod (fun k => k = R ∨ k = U ∨ k = F ∨ k = B) w w' := by
  obtain ⟨d0, d1, d2, d3, d4⟩ := rrow_cell h.row
  have v1 := h.v1
  have hll := hb.f.ll
  have hBF := hide (Buffered_any U B F D cap data pos r e w hb)
  have q1 : ¬ ((n : Int) < 256) := by omega
  have q2 : (n : Int) ≤ ((e - r : Nat) : Int) := by omega
  have q3 : (n : Int) ≤ 1099511627776 := by omega
  generalize hX : ((e - r : Nat) : Int) = X at *
  clear hX hne
  go_enter Tryd.func74, Tryd.ntmps74
  go_wp2_with (go_at_call 96; (with_reducible refine (hBF.out).mono ?_); rintro x w2 ⟨rfl, nb, rfl⟩)
  go_loopw [1] (fun s wr => ∃ (m k : Nat) (tmp' : List Value), s = .int .i64 m ∧ k + m = n ∧ OAt wr R A V U B F D cap data (pos + k) .nilIface tmp' ∧ Trod (fun k => k = R ∨ k = U ∨ k = F ∨ k = B) w wr) (fun s _ => (intOf s).toNat)
  case atStart => exact ⟨n, 0, tmp, rfl, by omega, h.quiet (Trod.drewN _ _), Trod.drewN _ _⟩
  case round =>
    obtain ⟨m, k, tmp', rfl, hkm, ho, ht⟩ := hrel
    by_cases hm : 256 < m
    · have hR := hide (readFull_ok R A V U B F D cap 256 data (pos + k) tmp' wr ho (by omega) (by omega))
      have hsl := fun W => arr256_all W R
      have hm' : (256 : Int) < (m : Int) := by omega
      have hm3 : (m : Int) ≤ 1099511627776 := by omega
      have HK := hide hkm
      clear hkm
      go_wp2_with (go_at_call 70; (with_reducible refine (hR.out).mono ?_); rintro x w2 ⟨rfl, h2, t2⟩)
      go_roundw
      case rel =>
        rw [Nat.add_assoc] at h2
        exact ⟨m - 256, k + 256, _, by go_num, by have := HK.out; omega, h2, ht.trans t2⟩
      case measure => simp [intOf]; omega
    · have hR := hide (readFull_ok R A V U B F D cap m data (pos + k) tmp' wr ho (by omega) (by omega))
      have hsl := fun W => arr256 W R m (by omega)
      have hm' : ¬ ((256 : Int) < (m : Int)) := by omega
      have HK := hide hkm
      clear hkm
      go_wp2_with (go_at_call 70; (with_reducible refine (hR.out).mono ?_); rintro x w2 ⟨rfl, h2, t2⟩)
      go_end0
      rw [Nat.add_assoc, HK.out] at h2
      exact ⟨rfl, ⟨_, h2⟩, ht.trans t2⟩

set_option maxHeartbeats 4000000 in
theorem skip_seek (R A V U B F D cap n r e : Nat) (data : List UInt8) (pos : Nat) (tmp : List Value) (w : World) (h : OAt w R A V U B F D cap data pos .nilIface tmp) (hb : BAt w U B F D cap data pos r e) (hn : 256 ≤ n) (hne : e - r < n) (hpos : pos + n ≤ data.length) :
    Calls Tryd.prog 74 #[.pointer (some ⟨R, 0, none⟩), .int .i64 n] w
      fun x w' => x = .returned (.tuple #[]) ∧ (∃ tmp', OAt w' R A V U B F D cap data (pos + n) .nilIface tmp') ∧ Trod (fun k => k = R ∨ k = U ∨ k = F ∨ k = B) w w' := by
  obtain ⟨d0, d1, d2, d3, d4⟩ := rrow_cell h.row
  have z3 := frozen_of_heap _ R 3 _ _ h.row
  have v1 := h.v1
  have hll := hb.f.ll
  have hfr := h.fr
  have hra := h.ra
  have hau := h.au
  have hbv := h.bv
  have hub := hb.ub
  have hdf := hb.f.df
  have hBF := hide (Buffered_any U B F D cap data pos r e w hb)
  have hMS := fun W (hW : Trod (fun _ => False) w W) => hide (MustSeek_any V U B F D cap data pos r e (pos + n) W (hb.trod hW id id id id) (hW.cell h.v0 id) (hW.cell h.v1 id) hpos (by omega) (by omega))
  push_cast at hMS
  have q1 : ¬ ((n : Int) < 256) := by omega
  have q2 : ((e - r : Nat) : Int) < (n : Int) := by omega
  have q3 : (n : Int) ≤ 1099511627776 := by omega
  have q4 : (pos : Int) + (n : Int) ≤ 1099511627776 := by omega
  have q5 : IntKind.i64.wrap ((pos : Int) + (n : Int)) = (pos : Int) + (n : Int) := by rw [IntKind.wrap_i64]; omega
  generalize hX : ((e - r : Nat) : Int) = X at *
  clear hX hne
  go_enter Tryd.func74, Tryd.ntmps74
  go_wp2_with (go_at_call 96; (with_reducible refine (hBF.out).mono ?_); rintro x w2 ⟨rfl, nb, rfl⟩)
  have HM := hMS (w.drewN (nb + 1)) (Trod.drewN _ _)
  go_region_held3 (fun W => W.cell? ⟨R, 1, none⟩ = some (.pointer (some ⟨V, 0, none⟩)) ∧ W.cell? ⟨R, 3, none⟩ = some (.int .i64 pos)) ((first | exact ⟨d1, d3⟩ | exact ⟨n1, n3⟩ | assumption | (simp [*]; done)))
    (first | (go_at_call 97; (with_reducible refine (HM.out).mono ?_); rintro x w3 ⟨rfl, b3, t3⟩; have g3 : w3.heap[R]? = _ := (t3.block R (Array.getElem?_eq_some_iff.1 h.row).1 (by omega)).trans h.row; have n1 := (rrow_cell g3).2.1; have n3 := (rrow_cell g3).2.2.2.1; have nz3 := frozen_of_heap _ R 3 _ _ g3))
  go_wp2
  go_end0
  have r3 := rrow_set3 g3 (pos + n)
  push_cast at r3
  have tS : Trod (fun k => k = R) w3 (w3.setCell ⟨R, 3, none⟩ (.int .i64 ((pos : Int) + (n : Int)))) := (Trod.refl (S := fun k => k = R) w3).put R 3 (Or.inl rfl) _
  have tW : Trod (fun k => k = U ∨ k = F) w w3 := (Trod.drewN w (nb + 1)).trans t3
  refine ⟨rfl, ⟨tmp, r3, h.tl, tS.cell (tW.cell h.v0 (by show ¬ (V = U ∨ V = F); omega)) (by show ¬ V = R; omega), tS.cell (tW.cell h.v1 (by show ¬ (V = U ∨ V = F); omega)) (by show ¬ V = R; omega), ⟨0, 0, b3.trod tS (by omega) (by omega) (by omega) (by omega)⟩, h.fr, h.ra, h.au, h.bv⟩, ?_⟩
  exact (tW.weaken fun k e => by rcases e with e | e; exact Or.inr (Or.inl e); exact Or.inr (Or.inr (Or.inl e))).trans (tS.weaken fun k e => Or.inl e)

theorem skip_ok (R A V U B F D cap n : Nat) (data : List UInt8) (pos : Nat) (tmp : List Value) (w : World) (h : OAt w R A V U B F D cap data pos .nilIface tmp) (hpos : pos + n ≤ data.length) :
    Calls Tryd.prog 74 #[.pointer (some ⟨R, 0, none⟩), .int .i64 n] w
      fun x w' => x = .returned (.tuple #[]) ∧ (∃ tmp', OAt w' R A V U B F D cap data (pos + n) .nilIface tmp') ∧ Trod (fun k => k = R ∨ k = U ∨ k = F ∨ k = B) w w' := by
  obtain ⟨r, e, hb⟩ := h.b
  by_cases h1 : n < 256
  · exact skip_small R A V U B F D cap n data pos tmp w h h1 hpos
  · by_cases h2 : n ≤ e - r
    · exact skip_buf R A V U B F D cap n r e data pos tmp w h hb (by omega) h2 hpos
    · exact skip_seek R A V U B F D cap n r e data pos tmp w h hb (by omega) (by omega) hpos
end Go.Proofs.YtgdghaijjhbegaaDoor
