/- The walks of the file's Seek to its end, and of its Write there. -/
import Derived.Test.YtgdghaijjhbegaaDoorFileA
namespace Go.Proofs.YtgdghaijjhbegaaDoor
open Go.RowKit
set_option maxRecDepth 100000

set_option maxHeartbeats 400000 in
theorem Seek_end (F : Nat) (v : Value) (bs : List UInt8) (w : World) (hf : FileAt w F v bs) (hl : bs.length ≤ 1099511627776) :
    Calls Tryd.prog 45 #[.pointer (some ⟨F, 0, none⟩), .int .i64 0, .int .i64 2] w
      fun e w' => e = .returned (.tuple #[.int .i64 bs.length, .nilIface]) ∧ FileAt w' F v bs ∧ Wrote (· = F) w v w' v := by
  have h1 := hf.c1
  have h2 := hf.c2
  have f2 := hf.f2
  rcases hf.shape with ⟨rfl, rfl⟩ | ⟨g, cap, rfl, _⟩
  · go_enter Tryd.func45, Tryd.ntmps45
    go_wp2
    go_ret2
    exact ⟨rfl, hf.seek, Wrote.set (S := (· = F)) (p := ⟨F, 2, none⟩) (Wrote.of_below (Below.refl _ _)) (Or.inl rfl) _⟩
  · go_enter Tryd.func45, Tryd.ntmps45
    go_wp2
    go_ret2
    exact ⟨rfl, hf.seek, Wrote.set (S := (· = F)) (p := ⟨F, 2, none⟩) (Wrote.of_below (Below.refl _ _)) (Or.inl rfl) _⟩

set_option maxHeartbeats 1000000 in
theorem Write_end (F : Nat) (v : Value) (bs xs : List UInt8) (b o cap : Nat) (w : World) (hf : FileAt w F v bs) (hx : BytesAt w b o xs) (hcap : xs.length ≤ cap) (hl : bs.length + xs.length ≤ 1099511627776) :
    Calls Tryd.prog 43 #[.pointer (some ⟨F, 0, none⟩), .slice (some ⟨b, o, none⟩) xs.length cap] w
      fun e w' => e = .returned (.tuple #[.int .i64 xs.length, .nilIface]) ∧ ∃ v', FileAt w' F v' (bs ++ xs) ∧ Wrote (· = F) w v w' v' := by
  have h1 := hf.c1
  have h2 := hf.c2
  have f1 := hf.f1
  have f2 := hf.f2
  have hfd : FileAt w.drew.drew.drew F v bs := ⟨hf.hi, hf.c1, hf.c2, hf.f1, hf.f2, hf.own⟩
  obtain ⟨v', w1, hrun, hown, hg, hat⟩ := run_file_append w.drew.drew.drew F v bs xs b o cap hfd hx hl
  have hne : some F ≠ v.ownBlock := fun e => hf.own_ne (Nat.le_refl F) e.symm
  have k1 : w1.cell? ⟨F, 1, none⟩ = some v := hg.cell h1 hne
  have k2 : w1.cell? ⟨F, 2, none⟩ = some (.int .i64 bs.length) := hg.cell h2 hne
  have z1 : w1.frozen? ⟨F, 1, none⟩ = false := (World.frozen?_of_block (w := w) (hg.block F hf.hi hne)).trans f1
  have z2 : w1.frozen? ⟨F, 2, none⟩ = false := (World.frozen?_of_block (w := w) (hg.block F hf.hi hne)).trans f2
  have hfin : FileAt ((w1.setCell ⟨F, 1, none⟩ v').setCell ⟨F, 2, none⟩ (.int .i64 (bs.length + xs.length))) F v' (bs ++ xs) := by
    have := hfd.written (ys := bs ++ xs) hg (by rw [List.length_append]; exact hown)
    rw [List.length_append] at this; push_cast at this; exact this
  have hwr : Wrote (· = F) w v ((w1.setCell ⟨F, 1, none⟩ v').setCell ⟨F, 2, none⟩ (.int .i64 (bs.length + xs.length))) v' :=
    ((show Wrote (· = F) w v w1 v' from Wrote.of_grown (w := w) ⟨hg.os, hg.tape, hg.output, hg.size, hg.block⟩ hat).set (Or.inl rfl) _).set (Or.inl rfl) _
  obtain ⟨p', vc', rfl⟩ : ∃ (p' : Option Addr) (c' : Nat), v' = .slice p' (bs.length + xs.length) c' := by
    rcases hown.2 with ⟨rfl, hn⟩ | ⟨g', c', cur, rfl, _⟩
    · exact ⟨none, 0, by rw [hn]⟩
    · exact ⟨_, c', rfl⟩
  have Hown := hide hown
  have Hg := hide hg
  clear hown hg hfd
  obtain ⟨p, vc, q, qc, hv, hvc, hq⟩ : ∃ (p : Option Addr) (vc : Nat) (q : Option Addr) (qc : Nat), v = .slice p bs.length vc ∧ bs.length ≤ vc ∧
      ∀ W, (Instr.slice 41 (.slice p bs.length vc) (some (.int .i64 bs.length)) none none).run Tryd.prog W = .ok (.slice q 0 qc) W := by
    rcases hf.shape with ⟨rfl, rfl⟩ | ⟨g, vc, rfl, _, _, hvc, _, _⟩
    · exact ⟨none, 0, none, 0, rfl, Nat.le_refl _, fun W => by kernel_rfl⟩
    · refine ⟨some ⟨g, 0, none⟩, vc, if vc = bs.length then some ⟨g, 0, none⟩ else (some (⟨g, 0, none⟩ : Addr)).map (·.add (bs.length * 1)), vc - bs.length, rfl, hvc, fun W => ?_⟩
      rw [run_slice_l (P := Tryd.prog) (w := W) 41 (some ⟨g, 0, none⟩) bs.length vc (by kernel_rfl) .i64 bs.length (by omega) (by omega)]
      rw [show Tryd.prog.elem 41 = 5 from by kernel_rfl, sizeOf_u8]
      simp only [Result.andThen, sliced, Int.toNat_natCast, Nat.sub_self]
  subst hv
  go_enter Tryd.func43, Tryd.ntmps43
  go_wp2
  go_loopw [] (fun wr => wr = w) (fun _ => 0)
  case atStart => rfl
  case round =>
    obtain rfl := hrel
    go_wp2
    go_region_held3 (fun W => W.cell? ⟨F, 1, none⟩ = some (.slice p bs.length vc) ∧ W.cell? ⟨F, 2, none⟩ = some (.int .i64 bs.length)) ((first | assumption | (simp [*]; done))) (first | fail)
    go_wp2
    go_region_held3 (fun W => W.cell? ⟨F, 1, none⟩ = some (.slice p bs.length vc) ∧ W.cell? ⟨F, 2, none⟩ = some (.int .i64 bs.length)) ((first | assumption | (simp [*]; done)))
      (first | (refine step_run (v := .int .i64 0) rfl (run_copy_exec _ _ _ _ rfl rfl rfl (fun ty => run_copy_none _ _ _ ty 5 _ _ _ _ _ _ Tryd.underlying41 (by kernel_rfl) ?c2)) ?_; (case c2 => simp)))
    go_wp2
    go_region_law (refine step_run (w' := w1) rfl (run_append_exec _ _ _ _ rfl rfl rfl hrun) ?_)
    go_wp2
    go_ret2
    exact ⟨rfl, _, hfin, hwr⟩
end Go.Proofs.YtgdghaijjhbegaaDoor
