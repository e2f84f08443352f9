/- The walk of the buffered reader's fill where something was given. -/
import Derived.Test.YtgdghaijjhbegaaDoorBufA
namespace Go.Proofs.YtgdghaijjhbegaaDoor
open Go.RowKit
set_option maxRecDepth 100000

set_option maxHeartbeats 6000000 in
/-- fill where something was given: what is left is moved to the beginning. -/
theorem fill_pos (U B F D cap : Nat) (data : List UInt8) (pos r e k m : Nat) (w : World) (hb : BAt w U B F D cap data pos r e) (hr : 0 < r) (hke : k = e - r) (hpos : pos + k < data.length) (hm : m = min (4096 - k) (data.length - (pos + k))) :
    Calls Tryd.prog 91 #[.pointer (some ⟨U, 0, none⟩)] w
      fun x w' => x = .returned (.tuple #[]) ∧ BAt w' U B F D cap data pos 0 (k + m) ∧ Trod (fun k => k = U ∨ k = F ∨ k = B) w w' := by
  have c0 := hb.c0
  have c2 := hb.c2
  have c3 := hb.c3
  have hub := hb.ub
  have hfu := hb.fu
  have hdf := hb.f.df
  have hre := hb.re
  have he4 := hb.e4
  obtain ⟨cs, hBr, hBc⟩ := hb.row
  have hk : k < 4096 := by omega
  have hxl : ((data.drop pos).take k).length = k := by rw [List.length_take, List.length_drop]; omega
  have hf0 : PFile w F D cap data (pos + k) := by rw [hke]; exact hb.f
  have hN1 : ∀ W, (nilAhead 332 46 (.pointer (some ⟨F, 0, none⟩)) "Read").run Tryd.prog W = .ok (some false) W := fun _ => by kernel_rfl
  have hM1 : ∀ W, (method 332 46 (.pointer (some ⟨F, 0, none⟩)) "Read").run Tryd.prog W = .ok (148, .pointer (some ⟨F, 0, none⟩)) W := fun _ => by kernel_rfl
  -- the slice that is moved, and its copy
  obtain ⟨o, hsl, hby⟩ : ∃ o : Nat, (∀ W, (Instr.slice 41 (.slice (some ⟨B, 0, none⟩) 4096 4096) (some (.int .i64 r)) (some (.int .i64 e)) none).run Tryd.prog W = .ok (.slice (some ⟨B, o, none⟩) k (4096 - r)) W) ∧ BytesAt w.drew B o ((data.drop pos).take k) := by
    refine ⟨if 4096 = r then 0 else r, fun W => ?_, ?_⟩
    · rw [run_slice_lh (P := Tryd.prog) (w := W) 41 (some ⟨B, 0, none⟩) 4096 4096 (by kernel_rfl) .i64 .i64 r e (by omega) (by omega) (by omega)]
      rw [show Tryd.prog.elem 41 = 5 from by kernel_rfl, sizeOf_u8]
      simp only [Result.andThen, sliced, Int.toNat_natCast]
      rw [hke]
      by_cases h4 : 4096 = r
      · simp [h4]
      · have hr0 : r ≠ 0 := by omega
        simp [h4, Addr.add, hr0]
    · by_cases h4 : 4096 = r
      · rw [if_pos h4]
        have : k = 0 := by omega
        subst this
        intro i hi; rw [List.take_zero] at hi; exact absurd hi (Nat.not_lt_zero _)
      · rw [if_neg h4, hke]; exact hb.by_
  have hcp := run_copy_sl w.drew B 0 4096 4096 5 cs B o k (4096 - r) ((data.drop pos).take k) (by rw [hxl]; omega) hby hBr (by omega)
  rw [hxl] at hcp
  have hW1 : Trod (fun k => k = B) w (w.drew.setRow B (splice cs.toList 0 (bcells ((data.drop pos).take k))).toArray) := Trod.setRow (S := fun k => k = B) (Trod.drew w) (Or.inl rfl) _
  have hB1 := setRow_heap w.drew B cs (splice cs.toList 0 (bcells ((data.drop pos).take k))).toArray 5 (0, 0) hBr
  have u1 := hb.u.trod hW1 (by omega)
  have f1 := hf0.trod hW1 (by omega) (by omega)
  generalize w.drew.setRow B (splice cs.toList 0 (bcells ((data.drop pos).take k))).toArray = W1 at *
  have a0 := u1.c0
  have a2 := u1.c2
  have a3 := u1.c3
  have az2 := u1.fz 2
  have az3 := u1.fz 3
  have u2 := ((u1.set3 k).set2 0).trod (S := fun _ => False) (Trod.drew _) id
  have t2 : Trod (fun k => k = U) W1 (((W1.setCell ⟨U, 3, none⟩ (.int .i64 k)).setCell ⟨U, 2, none⟩ (.int .i64 0)).drew) := (Trod.set (S := fun k => k = U) (p := ⟨U, 2, none⟩) (Trod.set (S := fun k => k = U) (p := ⟨U, 3, none⟩) (Trod.refl W1) (Or.inl rfl) _) (Or.inl rfl) _).trans (Trod.drew _)
  have f2 := f1.trod t2 (by omega) (by omega)
  have B2 := (t2.block B (Array.getElem?_eq_some_iff.1 hB1).1 (by omega)).trans hB1
  have q0 : (k : Int) < 4096 := by omega
  have q3 : ¬ (4096 = k) := by omega
  have q4 : (k : Int) ≤ 4096 := by omega
  have q5 : (e : Int) - (r : Int) = (k : Int) := by omega
  have q6 : (0 : Int) < (r : Int) := by omega
  have q7 : (r : Int) ≤ (e : Int) := by omega
  have q8 : (e : Int) ≤ 4096 := by omega
  have HX := hide hxl
  have HK := hide hke
  have hm0 : 0 < m := by omega
  have hkm : k + m ≤ 4096 := by omega
  have hpl : pos + k + m ≤ data.length := by omega
  have q1 : (0 : Int) < (m : Int) := by omega
  have q2 : (k : Int) + (m : Int) ≤ 4096 := by omega
  have HM := hide hm
  clear hke hxl hby hm
  go_enter Tryd.func91, Tryd.ntmps91
  go_wp2
  go_region_held3 (fun W => W.cell? ⟨U, 0, none⟩ = some (.slice (some ⟨B, 0, none⟩) 4096 4096) ∧ W.cell? ⟨U, 2, none⟩ = some (.int .i64 r) ∧ W.cell? ⟨U, 3, none⟩ = some (.int .i64 e)) ((first | exact ⟨c0, c2, c3⟩ | exact ⟨a0, a2, a3⟩ | assumption | (simp [*]; done)))
    (first | (refine step_run rfl (run_copy_exec _ _ _ _ rfl rfl rfl hcp) ?_))
  go_wp2
  go_region
  go_wp2
  have tW := (hW1.weaken (T := fun k => k = U ∨ k = F ∨ k = B) fun k e => Or.inr (Or.inr e)).trans (t2.weaken fun k e => Or.inl e)
  clear u1 f1 a0 a2 a3 az2 az3 t2 hB1 hW1 hcp hsl c0 c2 c3
  generalize ((W1.setCell ⟨U, 3, none⟩ (.int .i64 k)).setCell ⟨U, 2, none⟩ (.int .i64 0)).drew = W2 at *
  have hFR := hide (FRead_any F D cap B k (4096 - k) (4096 - k) data (pos + k) m _ 5 W2.drew.drew (f2.trod (S := fun _ => False) ((Trod.drew _).trans (Trod.drew _)) id id) B2 (by rw [List.size_toArray, length_splice _ _ _ (by rw [bcells_length, HX.out, Array.length_toList]; omega), Array.length_toList]; omega) HM.out hpos (by omega) (by omega))
  have d0 := u2.c0
  have d1 := u2.c1
  have d3 := u2.c3
  go_region_held3 (fun W => W.cell? ⟨U, 0, none⟩ = some (.slice (some ⟨B, 0, none⟩) 4096 4096) ∧ W.cell? ⟨U, 3, none⟩ = some (.int .i64 k)) ((first | exact ⟨d0, d3⟩ | assumption | (simp [*]; done))) (first | fail)
  go_wp2
  go_loopw [2] (fun s wr => s = .int .i64 100 ∧ wr = W2.drew) (fun _ _ => 0)
  case atStart => exact ⟨rfl, rfl⟩
  case round =>
    obtain ⟨rfl, rfl⟩ := hrel
    go_wp2
    go_region_held3 (fun W => W.cell? ⟨U, 0, none⟩ = some (.slice (some ⟨B, 0, none⟩) 4096 4096) ∧ W.cell? ⟨U, 1, none⟩ = some (.iface 46 (.pointer (some ⟨F, 0, none⟩))) ∧ W.cell? ⟨U, 3, none⟩ = some (.int .i64 k)) ((first | exact ⟨d0, d1, d3⟩ | assumption | (simp [*]; done)))
      (first | (go_at_call 148; (with_reducible refine (hFR.out).mono ?_); rintro x w2 ⟨rfl, f2', B2', t2'⟩; have u2' := u2.trod ((Trod.drew W2).trans ((Trod.drew W2.drew).trans t2')) (by omega); have v0 := u2'.c0; have v1 := u2'.c1; have v3 := u2'.c3; have vz3 := u2'.fz 3))
    go_wp2
    have u5 := u2'.set3 (k + m)
    push_cast at u5
    have tU : Trod (fun k => k = U) w2 (w2.setCell ⟨U, 3, none⟩ (.int .i64 ((k : Int) + (m : Int)))) := Trod.set (S := fun k => k = U) (p := ⟨U, 3, none⟩) (Trod.refl w2) (Or.inl rfl) _
    have tA : Trod (fun k => k = U ∨ k = F ∨ k = B) w (w2.setCell ⟨U, 3, none⟩ (.int .i64 ((k : Int) + (m : Int)))) := (tW.trans ((Trod.drew W2).trans ((Trod.drew W2.drew).trans (t2'.weaken fun k e => Or.inr e)))).trans (tU.weaken fun k e => Or.inl e)
    have f5 := f2'.trod tU (by omega) (by omega)
    have B5 := (tU.block B (Array.getElem?_eq_some_iff.1 B2').1 (by omega)).trans B2'
    rw [List.toList_toArray, splice_two _ _ _ _ _ (by rw [Array.length_toList]; exact hBc) hkm hpl] at B5
    rw [Nat.add_assoc] at f5 hpl
    refine bodyPost_ret (results_none rfl _ _ _) rfl ?_
    exact ⟨rfl, BAt.of_row u5 f5 hBc hkm hpl B5 hfu hub, tA⟩

/-- fill, whatever is buffered. -/
theorem fill_any (U B F D cap : Nat) (data : List UInt8) (pos r e : Nat) (w : World) (hb : BAt w U B F D cap data pos r e) (hk : e - r < 4096) (hpos : pos + (e - r) < data.length) :
    ∃ m, m = min (4096 - (e - r)) (data.length - (pos + (e - r))) ∧ Calls Tryd.prog 91 #[.pointer (some ⟨U, 0, none⟩)] w
      fun x w' => x = .returned (.tuple #[]) ∧ BAt w' U B F D cap data pos 0 (e - r + m) ∧ Trod (fun k => k = U ∨ k = F ∨ k = B) w w' := by
  refine ⟨_, rfl, ?_⟩
  rcases Nat.eq_zero_or_pos r with h | h
  · subst h
    exact fill_zero U B F D cap data pos e _ w hb hk hpos rfl
  · exact fill_pos U B F D cap data pos r e _ _ w hb h rfl hpos rfl
end Go.Proofs.YtgdghaijjhbegaaDoor
