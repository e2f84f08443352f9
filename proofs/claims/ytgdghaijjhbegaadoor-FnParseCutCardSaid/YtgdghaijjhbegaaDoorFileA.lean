/- The file in memory; the walks of its Seek and Write at its end. -/
import Derived.Test.YtgdghaijjhbegaaDoorLaid
import Derived.Test.YtgdghaijjhbegaaDoorMem
import Derived.Maps.AppendAt
import Derived.OwnWalk
namespace Go.Proofs.YtgdghaijjhbegaaDoor
open Go.RowKit
set_option maxRecDepth 100000

/-- A file whose reader stands at its end. -/
structure FileAt (w : World) (F : Nat) (v : Value) (bs : List UInt8) : Prop where
  hi : F < w.heap.size
  c1 : w.cell? ⟨F, 1, none⟩ = some v
  c2 : w.cell? ⟨F, 2, none⟩ = some (.int .i64 bs.length)
  f1 : w.frozen? ⟨F, 1, none⟩ = false
  f2 : w.frozen? ⟨F, 2, none⟩ = false
  own : w.ownsRow (F + 1) 5 1 v bs.length (bcells bs)

/-- From w, with a file's contents at v, to w', with the contents at v': nothing is written but the blocks of S and the contents' row; the row stays, or is a new one. -/
structure Wrote (S : Nat → Prop) (w : World) (v : Value) (w' : World) (v' : Value) : Prop where
  os : w'.os = w.os
  tape : w'.tape = w.tape
  output : w'.output = w.output
  size : w.heap.size ≤ w'.heap.size
  block : ∀ k, k < w.heap.size → ¬ S k → v.ownBlock ≠ some k → w'.heap[k]? = w.heap[k]?
  row : v'.ownBlock = v.ownBlock ∨ ∃ k, v'.ownBlock = some k ∧ w.heap.size ≤ k

theorem Wrote.trans {S : Nat → Prop} {a b c : World} {u v x : Value} (h : Wrote S a u b v) (k : Wrote S b v c x) : Wrote S a u c x := by
  refine ⟨k.os.trans h.os, k.tape.trans h.tape, k.output.trans h.output, Nat.le_trans h.size k.size, fun i hi hS hu => ?_, ?_⟩
  · rw [k.block i (Nat.lt_of_lt_of_le hi h.size) hS ?_, h.block i hi hS hu]
    rcases h.row with e | ⟨j, e, hj⟩
    · rw [e]; exact hu
    · rw [e]; simp; omega
  · rcases k.row with e | ⟨j, e, hj⟩
    · rw [e]; exact h.row
    · exact Or.inr ⟨j, e, Nat.le_trans h.size hj⟩
/-- The second step may write what was new behind the first one's start. -/
theorem Wrote.trans' {S T : Nat → Prop} {a b c : World} {u v x : Value} (h : Wrote S a u b v) (k : Wrote T b v c x) (hT : ∀ k, T k → S k ∨ a.heap.size ≤ k) : Wrote S a u c x := by
  refine ⟨k.os.trans h.os, k.tape.trans h.tape, k.output.trans h.output, Nat.le_trans h.size k.size, fun i hi hS hu => ?_, ?_⟩
  · rw [k.block i (Nat.lt_of_lt_of_le hi h.size) (fun e => (hT i e).elim hS (by omega)) ?_, h.block i hi hS hu]
    rcases h.row with e | ⟨j, e, hj⟩
    · rw [e]; exact hu
    · rw [e]; simp; omega
  · rcases k.row with e | ⟨j, e, hj⟩
    · rw [e]; exact h.row
    · exact Or.inr ⟨j, e, Nat.le_trans h.size hj⟩
theorem Wrote.of_below {S : Nat → Prop} {a b : World} {v : Value} (h : Below a.heap.size a b) : Wrote S a v b v :=
  ⟨h.os, h.tape, h.output, h.size, fun k hk _ _ => h.block k hk, Or.inl rfl⟩
theorem Wrote.weaken {S T : Nat → Prop} {a b : World} {u v : Value} (h : Wrote S a u b v) (hST : ∀ k, k < a.heap.size → S k → T k) : Wrote T a u b v :=
  ⟨h.os, h.tape, h.output, h.size, fun k hk hT hu => h.block k hk (fun hS => hT (hST k hk hS)) hu, h.row⟩
theorem Wrote.set {S : Nat → Prop} {a b : World} {u v : Value} (h : Wrote S a u b v) {p : Addr} (hp : S p.block ∨ a.heap.size ≤ p.block) (x : Value) : Wrote S a u (b.setCell p x) v :=
  ⟨h.os, h.tape, h.output, by simp only [World.setCell]; (try simp); exact h.size, fun k hk hS hu => by
    rw [Below.heap_setCell b p x k (by rintro rfl; rcases hp with hp | hp; exact hS hp; omega)]; exact h.block k hk hS hu, h.row⟩
theorem Wrote.cell {S : Nat → Prop} {a b : World} {u v : Value} (h : Wrote S a u b v) {p : Addr} {x : Value} (hc : a.cell? p = some x) (hS : ¬ S p.block) (hu : u.ownBlock ≠ some p.block) : b.cell? p = some x :=
  (World.cell?_of_block (w := a) (h.block p.block (World.block_lt_of_cell? a p hc) hS hu)).trans hc
theorem Wrote.frozen {S : Nat → Prop} {a b : World} {u v : Value} (h : Wrote S a u b v) {p : Addr} {x : Bool} (hl : p.block < a.heap.size) (hc : a.frozen? p = x) (hS : ¬ S p.block) (hu : u.ownBlock ≠ some p.block) : b.frozen? p = x :=
  (World.frozen?_of_block (w := a) (h.block p.block hl hS hu)).trans hc
theorem Wrote.bytes {S : Nat → Prop} {a b : World} {u v : Value} (h : Wrote S a u b v) {g o : Nat} {xs : List UInt8} (hc : BytesAt a g o xs) (hS : ¬ S g) (hu : u.ownBlock ≠ some g) : BytesAt b g o xs :=
  fun i hi => h.cell (hc i hi) hS hu
/-- What stood before all that is written stands. -/
theorem Wrote.below {S : Nat → Prop} {a b : World} {u v : Value} (h : Wrote S a u b v) {B : Nat} (hB : B ≤ a.heap.size) (hS : ∀ k, k < B → ¬ S k) (hu : ∀ k, k < B → u.ownBlock ≠ some k) : Below B a b :=
  ⟨h.os, h.tape, h.output, h.size, fun k hk => h.block k (by omega) (hS k hk) (hu k hk)⟩

theorem FileAt.own_ne {w : World} {F : Nat} {v : Value} {bs : List UInt8} (h : FileAt w F v bs) {k : Nat} (hk : k ≤ F) : v.ownBlock ≠ some k := by
  intro e
  have := (h.own.lt k e).1
  omega
theorem FileAt.below {w w' : World} {F : Nat} {v : Value} {bs : List UInt8} (h : FileAt w F v bs) (hb : Below w.heap.size w w') : FileAt w' F v bs := by
  refine ⟨Nat.lt_of_lt_of_le h.hi hb.size, (hb.cell (p := ⟨F, 1, none⟩) h.hi).trans h.c1, (hb.cell (p := ⟨F, 2, none⟩) h.hi).trans h.c2, (hb.frozen (p := ⟨F, 1, none⟩) h.hi).trans h.f1, (hb.frozen (p := ⟨F, 2, none⟩) h.hi).trans h.f2, ?_⟩
  exact h.own.kept (row := none) ⟨hb.os, hb.tape, hb.output, hb.size, fun k hk _ => hb.block k hk⟩ (by cases v.ownBlock <;> simp)

theorem FileAt.shape {w : World} {F : Nat} {v : Value} {bs : List UInt8} (h : FileAt w F v bs) :
    (v = .slice none 0 0 ∧ bs = []) ∨ ∃ g cap, v = .slice (some ⟨g, 0, none⟩) bs.length cap ∧ F < g ∧ g < w.heap.size ∧ bs.length ≤ cap ∧ cap ≤ maxLen ∧ BytesAt w g 0 bs := by
  rcases h.own.2 with ⟨rfl, hn⟩ | ⟨g, cap, cur, rfl, hb, hg, hnc, hcm, _, _⟩
  · exact Or.inl ⟨rfl, List.eq_nil_of_length_eq_zero hn⟩
  · refine Or.inr ⟨g, cap, rfl, by omega, (Array.getElem?_eq_some_iff.1 hg).1, hnc, hcm, fun i hi => ?_⟩
    have := h.own.cells (g := g) rfl i _ (by simp [bcells, hi] : (bcells bs)[i]? = some (Value.int .u8 (bs[i].toNat : Int)))
    have hadd : (⟨g, 0, none⟩ : Addr).add i = ⟨g, 0 + i, none⟩ := by unfold Addr.add; split <;> simp_all
    rw [hadd] at this
    exact this

theorem FileAt.seek {w : World} {F : Nat} {v : Value} {bs : List UInt8} (h : FileAt w F v bs) : FileAt (w.setCell ⟨F, 2, none⟩ (.int .i64 bs.length)) F v bs := by
  refine ⟨by simp; exact h.hi, ?_, World.cell?_setCell_same _ _ _ h.c2, by rw [World.frozen?_setCell]; exact h.f1, by rw [World.frozen?_setCell]; exact h.f2, ownsRow_setCell_below h.own (Nat.lt_succ_self F) _⟩
  rw [World.cell?_setCell_other _ _ _ _ (by simp)]; exact h.c1

theorem FileAt.written {w w1 : World} {F : Nat} {v v' : Value} {bs ys : List UInt8} (h : FileAt w F v bs) (hg : w.grownBy w1 v.ownBlock) (hown : w1.ownsRow (F + 1) 5 1 v' ys.length (bcells ys)) :
    FileAt ((w1.setCell ⟨F, 1, none⟩ v').setCell ⟨F, 2, none⟩ (.int .i64 ys.length)) F v' ys := by
  have hne : some F ≠ v.ownBlock := fun e => h.own_ne (Nat.le_refl F) e.symm
  have e := hg.block F h.hi hne
  have k1 : w1.cell? ⟨F, 1, none⟩ = some v := hg.cell h.c1 hne
  have k2 : w1.cell? ⟨F, 2, none⟩ = some (.int .i64 bs.length) := hg.cell h.c2 hne
  have z1 : w1.frozen? ⟨F, 1, none⟩ = false := (World.frozen?_of_block (w := w) e).trans h.f1
  have z2 : w1.frozen? ⟨F, 2, none⟩ = false := (World.frozen?_of_block (w := w) e).trans h.f2
  refine ⟨by simp; exact Nat.lt_of_lt_of_le h.hi hg.size, ?_, ?_, by rw [World.frozen?_setCell, World.frozen?_setCell]; exact z1, by rw [World.frozen?_setCell, World.frozen?_setCell]; exact z2, ?_⟩
  · rw [World.cell?_setCell_other _ _ _ _ (by simp)]; exact World.cell?_setCell_same _ _ _ k1
  · refine World.cell?_setCell_same _ _ _ (u := .int .i64 bs.length) ?_
    rw [World.cell?_setCell_other _ _ _ _ (by simp)]; exact k2
  · exact ownsRow_setCell_below (ownsRow_setCell_below hown (Nat.lt_succ_self F) _) (Nat.lt_succ_self F) _

theorem Wrote.of_grown {S : Nat → Prop} {w w1 : World} {v v' : Value} (hg : w.grownBy w1 v.ownBlock) (hat : v'.ownBlock = v.ownBlock ∨ v'.ownBlock = some w.heap.size) : Wrote S w v w1 v' :=
  ⟨hg.os, hg.tape, hg.output, hg.size, fun k hk _ hu => hg.block k hk (fun e => hu e.symm), hat.imp id fun e => ⟨_, e, Nat.le_refl _⟩⟩

/-- append to the file's contents: what it gives. -/
theorem run_file_append (w : World) (F : Nat) (v : Value) (bs xs : List UInt8) (b o cap : Nat) (hf : FileAt w F v bs) (hx : BytesAt w b o xs) (hl : bs.length + xs.length ≤ 1099511627776) :
    ∃ v' w1, (Builtin.append_ #[41, 41] 41 #[v, .slice (some ⟨b, o, none⟩) xs.length cap]).run Tryd.prog w = .ok v' w1 ∧
      w1.ownsRow (F + 1) 5 1 v' (bs.length + xs.length) (bcells (bs ++ xs)) ∧ w.grownBy w1 v.ownBlock ∧ (v'.ownBlock = v.ownBlock ∨ v'.ownBlock = some w.heap.size) := by
  obtain ⟨i0, hi, hz, hsz, hby⟩ := info_parts (show (Tryd.prog.info? 5).map (fun i => (i.zero, i.size, i.bytes)) = some (some (.int .u8 0), 1, 1) by kernel_rfl)
  obtain ⟨v', w1, hr, hown, hg, _, hat⟩ := run_append_own_at (P := Tryd.prog) w (F + 1) 41 41 5 i0 (.int .u8 0) 1 1 Tryd.underlying41 hi hz hsz hby rfl (by decide) v bs.length (bcells bs) hf.own
    ⟨b, o, none⟩ xs.length cap (bcells xs) (by rw [bcells_length]; omega)
    (fun j u hj => by
      have hjl : j < xs.length := by
        rcases Nat.lt_or_ge j xs.length with h | h
        · exact h
        · rw [List.getElem?_eq_none (by rw [bcells_length]; exact h)] at hj; cases hj
      have hadd : (⟨b, o, none⟩ : Addr).add j = ⟨b, o + j, none⟩ := by unfold Addr.add; split <;> simp_all
      rw [hadd, hx j hjl]
      simp [bcells, hjl] at hj
      rw [hj]) (bcells_one xs) (by simp only [maxLen]; omega) (by omega) (by have := hf.hi; omega)
  refine ⟨v', w1, hr, ?_, hg, hat⟩
  have e : bcells (bs ++ xs) = bcells bs ++ bcells xs := by simp [bcells]
  rw [e]; exact hown
end Go.Proofs.YtgdghaijjhbegaaDoor

/- The walks of the file's Seek to its end, and of its Write there. -/
namespace Go.Proofs.YtgdghaijjhbegaaDoor
open Go.RowKit
set_option maxRecDepth 100000

set_option maxHeartbeats 400000 in
theorem Seek_end (F : Nat) (v : Value) (bs : List UInt8) (w : World) (hf : FileAt w F v bs) (hl : bs.length ≤ 1099511627776) :
    Calls Tryd.prog 45 #[.pointer (some ⟨F, 0, none⟩), .int .i64 0, .int .i64 2] w
      fun e w' => e = .returned (.tuple #[.int .i64 bs.length, .nilIface]) ∧ FileAt w' F v bs ∧ Wrote (· = F) w v w' v := by
  have h1 := hf.c1
  have h2 := hf.c2
  have f2 := hf.f2
  rcases hf.shape with ⟨rfl, rfl⟩ | ⟨g, cap, rfl, _⟩
  · go_enter Tryd.func45, Tryd.ntmps45
    go_wp2
    go_ret2
    exact ⟨rfl, hf.seek, Wrote.set (S := (· = F)) (p := ⟨F, 2, none⟩) (Wrote.of_below (Below.refl _ _)) (Or.inl rfl) _⟩
  · go_enter Tryd.func45, Tryd.ntmps45
    go_wp2
    go_ret2
    exact ⟨rfl, hf.seek, Wrote.set (S := (· = F)) (p := ⟨F, 2, none⟩) (Wrote.of_below (Below.refl _ _)) (Or.inl rfl) _⟩

set_option maxHeartbeats 1000000 in
theorem Write_end (F : Nat) (v : Value) (bs xs : List UInt8) (b o cap : Nat) (w : World) (hf : FileAt w F v bs) (hx : BytesAt w b o xs) (_hcap : xs.length ≤ cap) (hl : bs.length + xs.length ≤ 1099511627776) :
    Calls Tryd.prog 43 #[.pointer (some ⟨F, 0, none⟩), .slice (some ⟨b, o, none⟩) xs.length cap] w
      fun e w' => e = .returned (.tuple #[.int .i64 xs.length, .nilIface]) ∧ ∃ v', FileAt w' F v' (bs ++ xs) ∧ Wrote (· = F) w v w' v' := by
  have h1 := hf.c1
  have h2 := hf.c2
  have f1 := hf.f1
  have f2 := hf.f2
  have hfd : FileAt w.drew.drew.drew F v bs := ⟨hf.hi, hf.c1, hf.c2, hf.f1, hf.f2, hf.own⟩
  obtain ⟨v', w1, hrun, hown, hg, hat⟩ := run_file_append w.drew.drew.drew F v bs xs b o cap hfd hx hl
  have hne : some F ≠ v.ownBlock := fun e => hf.own_ne (Nat.le_refl F) e.symm
  have k1 : w1.cell? ⟨F, 1, none⟩ = some v := hg.cell h1 hne
  have k2 : w1.cell? ⟨F, 2, none⟩ = some (.int .i64 bs.length) := hg.cell h2 hne
  have z1 : w1.frozen? ⟨F, 1, none⟩ = false := (World.frozen?_of_block (w := w) (hg.block F hf.hi hne)).trans f1
  have z2 : w1.frozen? ⟨F, 2, none⟩ = false := (World.frozen?_of_block (w := w) (hg.block F hf.hi hne)).trans f2
  have hfin : FileAt ((w1.setCell ⟨F, 1, none⟩ v').setCell ⟨F, 2, none⟩ (.int .i64 (bs.length + xs.length))) F v' (bs ++ xs) := by
    have := hfd.written (ys := bs ++ xs) hg (by rw [List.length_append]; exact hown)
    rw [List.length_append] at this; push_cast at this; exact this
  have hwr : Wrote (· = F) w v ((w1.setCell ⟨F, 1, none⟩ v').setCell ⟨F, 2, none⟩ (.int .i64 (bs.length + xs.length))) v' :=
    ((show Wrote (· = F) w v w1 v' from Wrote.of_grown (w := w) ⟨hg.os, hg.tape, hg.output, hg.size, hg.block⟩ hat).set (Or.inl rfl) _).set (Or.inl rfl) _
  obtain ⟨p', vc', rfl⟩ : ∃ (p' : Option Addr) (c' : Nat), v' = .slice p' (bs.length + xs.length) c' := by
    rcases hown.2 with ⟨rfl, hn⟩ | ⟨g', c', cur, rfl, _⟩
    · exact ⟨none, 0, by rw [hn]⟩
    · exact ⟨_, c', rfl⟩
  have Hown := hide hown
  have Hg := hide hg
  clear hown hg hfd
  obtain ⟨p, vc, q, qc, hv, hvc, hq⟩ : ∃ (p : Option Addr) (vc : Nat) (q : Option Addr) (qc : Nat), v = .slice p bs.length vc ∧ bs.length ≤ vc ∧
      ∀ W, (Instr.slice 41 (.slice p bs.length vc) (some (.int .i64 bs.length)) none none).run Tryd.prog W = .ok (.slice q 0 qc) W := by
    rcases hf.shape with ⟨rfl, rfl⟩ | ⟨g, vc, rfl, _, _, hvc, _, _⟩
    · exact ⟨none, 0, none, 0, rfl, Nat.le_refl _, fun W => by kernel_rfl⟩
    · refine ⟨some ⟨g, 0, none⟩, vc, if vc = bs.length then some ⟨g, 0, none⟩ else (some (⟨g, 0, none⟩ : Addr)).map (·.add (bs.length * 1)), vc - bs.length, rfl, hvc, fun W => ?_⟩
      rw [run_slice_l (P := Tryd.prog) (w := W) 41 (some ⟨g, 0, none⟩) bs.length vc (by kernel_rfl) .i64 bs.length (by omega) (by omega)]
      rw [show Tryd.prog.elem 41 = 5 from by kernel_rfl, sizeOf_u8]
      simp only [Result.andThen, sliced, Int.toNat_natCast, Nat.sub_self]
  subst hv
  go_enter Tryd.func43, Tryd.ntmps43
  go_wp2
  go_loopw [] (fun wr => wr = w) (fun _ => 0)
  case atStart => rfl
  case round =>
    obtain rfl := hrel
    go_wp2
    go_region_held3 (fun W => W.cell? ⟨F, 1, none⟩ = some (.slice p bs.length vc) ∧ W.cell? ⟨F, 2, none⟩ = some (.int .i64 bs.length)) ((first | assumption | (simp [*]; done))) (first | fail)
    go_wp2
    go_region_held3 (fun W => W.cell? ⟨F, 1, none⟩ = some (.slice p bs.length vc) ∧ W.cell? ⟨F, 2, none⟩ = some (.int .i64 bs.length)) ((first | assumption | (simp [*]; done)))
      (first | (refine step_run (v := .int .i64 0) rfl (run_copy_exec _ _ _ _ rfl rfl rfl (fun ty => run_copy_none _ _ _ ty 5 _ _ _ _ _ _ Tryd.underlying41 (by kernel_rfl) ?c2)) ?_; (case c2 => simp)))
    go_wp2
    go_region_law (refine step_run (w' := w1) rfl (run_append_exec _ _ _ _ rfl rfl rfl hrun) ?_)
    go_wp2
    go_ret2
    exact ⟨rfl, _, hfin, hwr⟩
end Go.Proofs.YtgdghaijjhbegaaDoor
