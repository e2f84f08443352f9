/- The file that is read: its state, and the walk of its Read. -/
import Derived.Test.YtgdghaijjhbegaaDoorMem
import Derived.Test.YtgdghaijjhbegaaDoorCopyA
namespace Go.Proofs.YtgdghaijjhbegaaDoor
open Go.RowKit
set_option maxRecDepth 100000

/-- A file of the bytes data, whose reader stands at off: block F; the bytes in block D. -/
structure PFile (w : World) (F D cap : Nat) (data : List UInt8) (off : Nat) : Prop where
  hi : F < w.heap.size
  c1 : w.cell? ⟨F, 1, none⟩ = some (.slice (some ⟨D, 0, none⟩) data.length cap)
  c2 : w.cell? ⟨F, 2, none⟩ = some (.int .i64 off)
  f2 : w.frozen? ⟨F, 2, none⟩ = false
  by_ : BytesAt w D 0 data
  df : D < F
  lc : data.length ≤ cap
  ll : data.length ≤ 1099511627776

/-- Nothing is written but the blocks of S, below a new one. -/
structure Trod (S : Nat → Prop) (w w' : World) : Prop where
  os : w'.os = w.os
  tape : w'.tape = w.tape
  output : w'.output = w.output
  size : w.heap.size ≤ w'.heap.size
  block : ∀ k, k < w.heap.size → ¬ S k → w'.heap[k]? = w.heap[k]?

section
variable {S T : Nat → Prop} {a b c : World}
theorem Trod.refl (w : World) : Trod S w w := ⟨rfl, rfl, rfl, Nat.le_refl _, fun _ _ _ => rfl⟩
theorem Trod.drew (w : World) : Trod S w w.drew := ⟨rfl, rfl, rfl, Nat.le_refl _, fun _ _ _ => rfl⟩
theorem Trod.trans (h : Trod S a b) (k : Trod S b c) : Trod S a c :=
  ⟨k.os.trans h.os, k.tape.trans h.tape, k.output.trans h.output, Nat.le_trans h.size k.size, fun i hi hS => (k.block i (Nat.lt_of_lt_of_le hi h.size) hS).trans (h.block i hi hS)⟩
theorem Trod.trans' (h : Trod S a b) (k : Trod T b c) (hT : ∀ k, T k → S k ∨ a.heap.size ≤ k) : Trod S a c :=
  ⟨k.os.trans h.os, k.tape.trans h.tape, k.output.trans h.output, Nat.le_trans h.size k.size, fun i hi hS => (k.block i (Nat.lt_of_lt_of_le hi h.size) (fun e => (hT i e).elim hS (by omega))).trans (h.block i hi hS)⟩
theorem Trod.weaken (h : Trod S a b) (hST : ∀ k, S k → T k) : Trod T a b := ⟨h.os, h.tape, h.output, h.size, fun k hk hT => h.block k hk (fun hS => hT (hST k hS))⟩
theorem Trod.of_below (h : Below a.heap.size a b) : Trod S a b := ⟨h.os, h.tape, h.output, h.size, fun k hk _ => h.block k hk⟩
theorem Trod.below (h : Trod S a b) {B : Nat} (hB : B ≤ a.heap.size) (hS : ∀ k, k < B → ¬ S k) : Below B a b := ⟨h.os, h.tape, h.output, h.size, fun k hk => h.block k (by omega) (hS k hk)⟩
theorem Trod.set (h : Trod S a b) {p : Addr} (hp : S p.block ∨ a.heap.size ≤ p.block) (x : Value) : Trod S a (b.setCell p x) :=
  ⟨h.os, h.tape, h.output, by simp; exact h.size, fun k hk hS => by
    rw [Below.heap_setCell b p x k (by rintro rfl; rcases hp with hp | hp; exact hS hp; omega)]; exact h.block k hk hS⟩
theorem Trod.setRow (h : Trod S a b) {g : Nat} (hp : S g ∨ a.heap.size ≤ g) (cs : Array Value) : Trod S a (b.setRow g cs) :=
  ⟨h.os, h.tape, h.output, by simp [World.setRow]; exact h.size, fun k hk hS => by
    rw [setRow_other b g k cs (by rintro rfl; rcases hp with hp | hp; exact hS hp; omega)]; exact h.block k hk hS⟩
theorem Trod.cell (h : Trod S a b) {p : Addr} {x : Value} (hc : a.cell? p = some x) (hS : ¬ S p.block) : b.cell? p = some x :=
  (World.cell?_of_block (w := a) (h.block p.block (World.block_lt_of_cell? a p hc) hS)).trans hc
theorem Trod.frozen (h : Trod S a b) {p : Addr} {x : Bool} (hl : p.block < a.heap.size) (hc : a.frozen? p = x) (hS : ¬ S p.block) : b.frozen? p = x :=
  (World.frozen?_of_block (w := a) (h.block p.block hl hS)).trans hc
theorem Trod.bytes (h : Trod S a b) {g o : Nat} {xs : List UInt8} (hc : BytesAt a g o xs) (hS : ¬ S g) : BytesAt b g o xs := fun i hi => h.cell (hc i hi) hS
end

theorem PFile.trod {w w' : World} {F D cap : Nat} {data : List UInt8} {off : Nat} (h : PFile w F D cap data off) {S : Nat → Prop} (hw : Trod S w w') (hF : ¬ S F) (hD : ¬ S D) : PFile w' F D cap data off :=
  ⟨Nat.lt_of_lt_of_le h.hi hw.size, hw.cell h.c1 hF, hw.cell h.c2 hF, hw.frozen h.hi h.f2 hF, hw.bytes h.by_ hD, h.df, h.lc, h.ll⟩

theorem PFile.moved {w w' : World} {F D cap : Nat} {data : List UInt8} {off off' : Nat} (h : PFile w F D cap data off) {S : Nat → Prop} (hw : Trod S w w') (hF : ¬ S F) (hD : ¬ S D) : PFile (w'.setCell ⟨F, 2, none⟩ (.int .i64 off')) F D cap data off' := by
  have h' := h.trod hw hF hD
  refine ⟨by simp; exact h'.hi, ?_, World.cell?_setCell_same _ _ _ h'.c2, by rw [World.frozen?_setCell]; exact h'.f2, fun i hi => ?_, h.df, h.lc, h.ll⟩
  · rw [World.cell?_setCell_other _ _ _ _ (by simp)]; exact h'.c1
  · rw [World.cell?_setCell_other _ _ _ _ (by intro e; injection e with e; have := h.df; omega)]; exact h'.by_ i hi

set_option maxHeartbeats 1000000 in
theorem FRead_any (F D cap g s n c : Nat) (data : List UInt8) (off m : Nat) (cs : Array Value) (t : TypeId) (w : World) (hf : PFile w F D cap data off) (hg : w.heap[g]? = some (.cells cs t (0, 0))) (hn : s + n ≤ cs.size)
    (hm : m = min n (data.length - off)) (hoff : off < data.length) (hgF : g ≠ F) (hgD : g ≠ D) :
    Calls Tryd.prog 148 #[.pointer (some ⟨F, 0, none⟩), .slice (some ⟨g, s, none⟩) n c] w
      fun e w' => e = .returned (.tuple #[.int .i64 m, .nilIface]) ∧ PFile w' F D cap data (off + m) ∧ w'.heap[g]? = some (.cells (splice cs.toList s (bcells ((data.drop off).take m))).toArray t (0, 0)) ∧ Trod (fun k => k = F ∨ k = g) w w' := by
  have c1 := hf.c1
  have c2 := hf.c2
  have f2 := hf.f2
  have hll := hf.ll
  have hlc := hf.lc
  have hxl : ((data.drop off).take m).length = min (data.length - off) n := by rw [List.length_take, List.length_drop]; omega
  have hg1 : (w.drew.drew).heap[g]? = some (.cells cs t (0, 0)) := hg
  have hby : BytesAt w.drew.drew D off ((data.drop off).take m) := by
    have := ((hf.by_.drop off).take m)
    rw [Nat.zero_add] at this
    exact this
  have hcp := run_copy_sl (w.drew.drew) g s n c t cs D off (data.length - off) (cap - off) ((data.drop off).take m) hxl hby hg1 (by omega)
  have hxm : ((data.drop off).take m).length = m := by omega
  rw [hxm] at hcp
  have e1 : ((data.length : Int) - (off : Int)) = ((data.length - off : Nat) : Int) := by omega
  have hml : off + m ≤ data.length := by omega
  have q1 : (off : Int) < (data.length : Int) := by omega
  have q2 : ¬ (data.length ≤ off) := by omega
  have q3 : (off : Int) ≤ (data.length : Int) := by omega
  have q4 : ¬ (cap = off) := by omega
  have hW2 : Trod (fun k => k = g) w (w.drew.drew.setRow g (splice cs.toList s (bcells ((data.drop off).take m))).toArray) :=
    Trod.setRow (S := fun k => k = g) (show Trod _ w w.drew.drew from ⟨rfl, rfl, rfl, Nat.le_refl _, fun _ _ _ => rfl⟩) (Or.inl rfl) _
  have hgg := setRow_heap (w.drew.drew) g cs (splice cs.toList s (bcells ((data.drop off).take m))).toArray t (0, 0) hg1
  have k1 := hW2.cell c1 (fun e => hgF e.symm)
  have k2 := hW2.cell c2 (fun e => hgF e.symm)
  have z2 := hW2.frozen hf.hi f2 (fun e => hgF e.symm)
  have hfin := fun off' => hf.moved (off' := off') hW2 (fun e => hgF e.symm) (fun e => hgD e.symm)
  generalize hXX : splice cs.toList s (bcells ((data.drop off).take m)) = XX at *
  have HXX := hide hXX
  clear hXX hxl hxm hby hm
  generalize hWW : w.drew.drew.setRow g XX.toArray = W2 at *
  clear hWW
  go_enter Tryd.func148, Tryd.ntmps148
  go_wp2
  go_region_held3 (fun W => W.cell? ⟨F, 1, none⟩ = some (.slice (some ⟨D, 0, none⟩) data.length cap) ∧ W.cell? ⟨F, 2, none⟩ = some (.int .i64 off)) ((first | exact ⟨c1, c2⟩ | assumption | (simp [*]; done))) (first | fail)
  go_wp2
  go_region_held3 (fun W => W.cell? ⟨F, 1, none⟩ = some (.slice (some ⟨D, 0, none⟩) data.length cap) ∧ W.cell? ⟨F, 2, none⟩ = some (.int .i64 off)) ((first | exact ⟨c1, c2⟩ | exact ⟨k1, k2⟩ | assumption | (simp [*]; done)))
    (first | (refine step_run rfl (run_copy_exec _ _ _ _ rfl rfl rfl hcp) ?_))
  go_wp2
  go_ret2
  have hfin' := hfin (off + m)
  push_cast at hfin'
  refine ⟨rfl, hfin', ?_, ?_⟩
  · rw [Below.heap_setCell W2 ⟨F, 2, none⟩ _ g hgF]; exact hgg
  · exact Trod.set (S := fun k => k = F ∨ k = g) (p := ⟨F, 2, none⟩) (hW2.weaken fun k e => Or.inr e) (Or.inl (Or.inl rfl)) _
end Go.Proofs.YtgdghaijjhbegaaDoor
