/- The walk of the limited reader over the reader of a text. -/
import Derived.Test.YtgdghaijjhbegaaGreatDoorCopyA
namespace Go.Proofs.YtgdghaijjhbegaaGreatDoor
open Go.RowKit
set_option maxRecDepth 100000

/-- A reader of the text's reader in block S, which gives n bytes at most, in block L. -/
structure LRAt (w : World) (L S n : Nat) : Prop where
  hi : L < w.heap.size
  c0 : w.cell? ⟨L, 0, none⟩ = some (.iface 58 (.pointer (some ⟨S, 0, none⟩)))
  c1 : w.cell? ⟨L, 1, none⟩ = some (.int .i64 n)
  f1 : w.frozen? ⟨L, 1, none⟩ = false

theorem LRAt.wrote {w w' : World} {L S n : Nat} (h : LRAt w L S n) {T : Nat → Prop} {u v : Value} (hw : Wrote T w u w' v) (hT : ¬ T L) (hu : u.ownBlock ≠ some L) : LRAt w' L S n :=
  ⟨Nat.lt_of_lt_of_le h.hi hw.size, hw.cell h.c0 hT hu, hw.cell h.c1 hT hu, hw.frozen h.hi h.f1 hT hu⟩

theorem BytesAt.wrote_ne {w w' : World} {g o : Nat} {xs : List UInt8} (h : BytesAt w g o xs) {T : Nat → Prop} (hw : Wrote T w (.slice none 0 0) w' (.slice none 0 0)) (hT : ¬ T g) : BytesAt w' g o xs :=
  hw.bytes h hT (by simp [Value.ownBlock])

set_option maxHeartbeats 1000000 in
theorem LRead_end (L S : Nat) (p : Option Addr) (m mcap : Nat) (ev : Value) (w : World) (hl : LRAt w L S 0) (hE : w.cell? ⟨0, 0, none⟩ = some ev) :
    Calls Tryz.prog 149 #[.pointer (some ⟨L, 0, none⟩), .slice p m mcap] w
      fun e w' => e = .returned (.tuple #[.int .i64 0, ev]) ∧ Below w.heap.size w w' := by
  have c1 := hl.c1
  go_enter Tryz.func149, Tryz.ntmps149
  go_wp2
  go_region_law (fail)
  go_wp2
  go_ret2
  exact ⟨rfl, (Below.refl _ w).drew⟩

theorem LRead_fin {L S g n r : Nat} {xs : List UInt8} {j sz : Nat} {ys : List UInt8} {t : TypeId} {w w1 : World} (hr : r ≤ n) (_hSg : S ≠ g) (hLg : L ≠ g) (hLS : L ≠ S) (hl1 : LRAt w1 L S n) (hs1 : SRAt w1 S xs j)
    (hg1 : ∃ cs', w1.heap[g]? = some (.cells cs' t (0, 0)) ∧ cs'.size = sz) (hby : BytesAt w1 g 0 ys) (hw1 : ∀ v, Wrote (fun k => k = S ∨ k = g) w v w1 v) :
    LRAt (w1.setCell ⟨L, 1, none⟩ (.int .i64 ((n : Int) - (r : Int)))) L S (n - r) ∧ SRAt (w1.setCell ⟨L, 1, none⟩ (.int .i64 ((n : Int) - (r : Int)))) S xs j ∧
    (∃ cs', (w1.setCell ⟨L, 1, none⟩ (.int .i64 ((n : Int) - (r : Int)))).heap[g]? = some (.cells cs' t (0, 0)) ∧ cs'.size = sz) ∧ BytesAt (w1.setCell ⟨L, 1, none⟩ (.int .i64 ((n : Int) - (r : Int)))) g 0 ys ∧
    ∀ v, Wrote (fun k => k = S ∨ k = g ∨ k = L) w v (w1.setCell ⟨L, 1, none⟩ (.int .i64 ((n : Int) - (r : Int)))) v := by
  have e : ((n : Int) - (r : Int)) = ((n - r : Nat) : Int) := by omega
  rw [e]
  have hL : Wrote (· = L) w1 (.slice none 0 0) (w1.setCell ⟨L, 1, none⟩ (.int .i64 ((n - r : Nat) : Int))) (.slice none 0 0) := Wrote.set (S := (· = L)) (p := ⟨L, 1, none⟩) (Wrote.of_below (Below.refl _ _)) (Or.inl rfl) _
  refine ⟨⟨by simp; exact hl1.hi, ?_, World.cell?_setCell_same _ _ _ hl1.c1, by rw [World.frozen?_setCell]; exact hl1.f1⟩, hs1.wrote hL (fun e => hLS e.symm) (by simp [Value.ownBlock]), ?_, hby.wrote_ne hL (fun e => hLg e.symm), fun v => ?_⟩
  · rw [World.cell?_setCell_other _ _ _ _ (by simp)]; exact hl1.c0
  · obtain ⟨cs', h1, h2⟩ := hg1
    exact ⟨cs', (Below.heap_setCell w1 ⟨L, 1, none⟩ _ g (fun e => hLg e.symm)).trans h1, h2⟩
  · exact ((hw1 v).weaken fun k _ h => h.elim Or.inl fun h => Or.inr (Or.inl h)).set (S := fun k => k = S ∨ k = g ∨ k = L) (p := ⟨L, 1, none⟩) (Or.inl (Or.inr (Or.inr rfl))) _

set_option maxHeartbeats 1000000 in
theorem LRead_any (L S g m mcap : Nat) (xs : List UInt8) (i n : Nat) (cs : Array Value) (t : TypeId) (w : World) (hl : LRAt w L S n) (hs : SRAt w S xs i) (hg : w.heap[g]? = some (.cells cs t (0, 0))) (hm : m ≤ cs.size) (hm0 : 0 < m) (hmc : m ≤ mcap)
    (hin : i + n = xs.length) (hn0 : 0 < n) (hx : xs.length ≤ 1099511627776) (hSg : S ≠ g) (hLg : L ≠ g) (hLS : L ≠ S) :
    Calls Tryz.prog 149 #[.pointer (some ⟨L, 0, none⟩), .slice (some ⟨g, 0, none⟩) m mcap] w
      fun e w' => e = .returned (.tuple #[.int .i64 (min m n : Nat), .nilIface]) ∧ LRAt w' L S (n - min m n) ∧ SRAt w' S xs (i + min m n) ∧ (∃ cs', w'.heap[g]? = some (.cells cs' t (0, 0)) ∧ cs'.size = cs.size) ∧ BytesAt w' g 0 ((xs.drop i).take (min m n)) ∧ ∀ v, Wrote (fun k => k = S ∨ k = g ∨ k = L) w v w' v := by
  have c0 := hl.c0
  have c1 := hl.c1
  have f1 := hl.f1
  have hR := fun W k h1 h2 => hide (SRead_any S g (min m n) k xs i cs t W h1 h2 (by omega) (by omega) (by omega) hx hSg)
  have hN : ∀ W, (nilAhead 327 58 (.pointer (some ⟨S, 0, none⟩)) "Read").run Tryz.prog W = .ok (some false) W := fun _ => by kernel_rfl
  have hM : ∀ W, (method 327 58 (.pointer (some ⟨S, 0, none⟩)) "Read").run Tryz.prog W = .ok (141, .pointer (some ⟨S, 0, none⟩)) W := fun _ => by kernel_rfl
  by_cases hmn : m ≤ n
  · have hmin : min m n = m := by omega
    rw [hmin] at hR ⊢
    have hn0' : ¬ (n = 0) := by omega
    have hnm : ¬ (n < m) := by omega
    go_enter Tryz.func149, Tryz.ntmps149
    go_wp2_with (go_at_call 141; (with_reducible refine ((hR _ _ hs hg).out).mono ?_); rintro e w1 ⟨rfl, hs1, hg1, hby1, hw1⟩; have hl1 := hl.wrote (hw1 (.slice none 0 0)) (by simp; omega) (by simp [Value.ownBlock]); have k1 := hl1.c1; have z1 := hl1.f1)
    go_ret2
    exact ⟨rfl, LRead_fin hmn hSg hLg hLS hl1 hs1 hg1 hby1 hw1⟩
  · have hmin : min m n = n := by omega
    rw [hmin] at hR ⊢
    have hn0' : ¬ (n = 0) := by omega
    have hnm : n < m := by omega
    have hnc : n ≤ mcap := by omega
    go_enter Tryz.func149, Tryz.ntmps149
    go_wp2_with (go_at_call 141; (with_reducible refine ((hR _ _ hs hg).out).mono ?_); rintro e w1 ⟨rfl, hs1, hg1, hby1, hw1⟩; have hl1 := hl.wrote (hw1 (.slice none 0 0)) (by simp; omega) (by simp [Value.ownBlock]); have k1 := hl1.c1; have z1 := hl1.f1)
    go_ret2
    have hf := LRead_fin (Nat.le_refl n) hSg hLg hLS hl1 hs1 hg1 hby1 hw1
    rw [Int.sub_self] at hf
    exact ⟨rfl, hf⟩
end Go.Proofs.YtgdghaijjhbegaaGreatDoor
