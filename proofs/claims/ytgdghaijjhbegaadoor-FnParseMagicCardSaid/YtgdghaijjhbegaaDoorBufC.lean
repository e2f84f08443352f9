/- The walks of the buffered reader's Peek and Buffered. -/
import Derived.Test.YtgdghaijjhbegaaDoorBufB
import Derived.Deep.QuietTactic
import Derived.BigQuiet
import Derived.Deep.LoopGhost
namespace Go.Proofs.YtgdghaijjhbegaaDoor
open Go.RowKit
set_option maxRecDepth 100000

theorem Trod.drewN {S : Nat → Prop} (w : World) (n : Nat) : Trod S w (w.drewN n) := ⟨rfl, rfl, rfl, Nat.le_refl _, fun _ _ _ => rfl⟩

theorem BAt.drewN {w : World} {U B F D cap : Nat} {data : List UInt8} {pos r e : Nat} (h : BAt w U B F D cap data pos r e) (n : Nat) : BAt (w.drewN n) U B F D cap data pos r e := h.trod (S := fun _ => False) (Trod.drewN _ _) id id id id

set_option maxHeartbeats 6000000 in
theorem Peek_any (U B F D cap : Nat) (data : List UInt8) (pos r e : Nat) (w : World) (hb : BAt w U B F D cap data pos r e) (hpos : pos + 8 ≤ data.length) :
    Calls Tryd.prog 69 #[.pointer (some ⟨U, 0, none⟩), .int .i64 8] w
      fun x w' => ∃ r' e', x = .returned (.tuple #[.slice (some ⟨B, r', none⟩) 8 (4096 - r'), .nilIface]) ∧ BAt w' U B F D cap data pos r' e' ∧ r' + 8 ≤ e' ∧ Trod (fun k => k = U ∨ k = F ∨ k = B) w w' := by
  obtain ⟨z5, c5⟩ := hb.c5
  obtain ⟨z6, c6⟩ := hb.c6
  have fz5 := hb.fz 5
  have fz6 := hb.fz 6
  have b1 := (hb.mark (j := 5) (Or.inl rfl) (-1)).mark (j := 6) (Or.inr rfl) (-1)
  have t1 : Trod (fun k => k = U ∨ k = F ∨ k = B) w ((w.setCell ⟨U, 5, none⟩ (.int .i64 (-1))).setCell ⟨U, 6, none⟩ (.int .i64 (-1))) :=
    (Trod.set (S := fun k => k = U) (p := ⟨U, 6, none⟩) (Trod.set (S := fun k => k = U) (p := ⟨U, 5, none⟩) (Trod.refl w) (Or.inl rfl) _) (Or.inl rfl) _).weaken fun k e => Or.inl e
  go_enter Tryd.func69, Tryd.ntmps69
  go_wp2
  go_loopg [] 1 (fun n wr => ∃ r e : Nat, BAt wr U B F D cap data pos r e ∧ (n = 0 → 8 ≤ e - r) ∧ Trod (fun k => k = U ∨ k = F ∨ k = B) w wr)
  case atStart => exact ⟨r, e, b1, fun h => absurd h (by omega), t1⟩
  case round =>
    obtain ⟨r1, e1, hr, hn, ht⟩ := hrel
    clear b1 t1 c5 c6 fz5 fz6
    have c0 := hr.c0
    have c2 := hr.c2
    have c3 := hr.c3
    have c4 := hr.c4
    have hre := hr.re
    have he4 := hr.e4
    by_cases h8 : 8 ≤ e1 - r1
    · have hd : decide ((e1 : Int) - (r1 : Int) < 8) = false := by simp; omega
      have q1 : ¬ ((e1 : Int) - (r1 : Int) < 8) := by omega
      clear hn
      go_wp2_with fail
      go_quiet (fail)
      go_wp2_with fail
      go_quiet (fail)
      go_wp2_with fail
      go_quiet (fail)
      go_wp2_with fail
      go_ret2
      exact ⟨r1, e1, (by show Ending.returned (.tuple #[.slice (some ⟨B, r1, none⟩) (r1 + 8 - r1) (4096 - r1), .nilIface]) = _; rw [Nat.add_sub_cancel_left]), (hr.drewN _).drewN _, by omega, ht.trans ((Trod.drewN wr _).trans (Trod.drewN _ _))⟩
    · have hd : decide ((e1 : Int) - (r1 : Int) < 8) = true := by simp; omega
      have q1 : ((e1 : Int) - (r1 : Int) < 8) := by omega
      have q2 : ((e1 : Int) - (r1 : Int) < 4096) := by omega
      have hd2 : decide ((e1 : Int) - (r1 : Int) < 4096) = true := by simp; omega
      have hg0 : gk ≠ 0 := fun h => absurd (hn h) h8
      clear hn
      go_wp2_with fail
      go_quiet (fail)
      go_wp2_with fail
      obtain ⟨m, hm, hF⟩ := fill_any U B F D cap data pos r1 e1 (wr.drewN nq) (hr.drewN nq) (by omega) (by omega)
      refine hF.mono ?_
      rintro x w2 ⟨rfl, hb2, ht2⟩
      have H8 : Hid (8 ≤ e1 - r1 + m) := by show _ ≤ _; omega
      clear hm
      go_wp2_with fail
      go_roundg 0
      case rel => exact ⟨0, e1 - r1 + m, hb2, fun _ => by have := H8.out; omega, ht.trans ((Trod.drewN wr _).trans ht2)⟩
      case measure => omega

set_option maxHeartbeats 1000000 in
theorem Buffered_any (U B F D cap : Nat) (data : List UInt8) (pos r e : Nat) (w : World) (hb : BAt w U B F D cap data pos r e) :
    Calls Tryd.prog 96 #[.pointer (some ⟨U, 0, none⟩)] w
      fun x w' => x = .returned (.int .i64 (e - r : Nat)) ∧ ∃ n, w' = w.drewN n := by
  have c2 := hb.c2
  have c3 := hb.c3
  have hre := hb.re
  have he4 := hb.e4
  have q1 : (r : Int) ≤ (e : Int) := by omega
  have q2 : (e : Int) ≤ 4096 := by omega
  have HQ : Hid ((e : Int) - (r : Int) = ((e - r : Nat) : Int)) := by show _ = _; omega
  go_enter Tryd.func96, Tryd.ntmps96
  go_wp2_with fail
  go_quiet (fail)
  go_wp2_with fail
  go_ret
  exact ⟨by rw [← HQ.out]; rfl, _, rfl⟩
end Go.Proofs.YtgdghaijjhbegaaDoor
