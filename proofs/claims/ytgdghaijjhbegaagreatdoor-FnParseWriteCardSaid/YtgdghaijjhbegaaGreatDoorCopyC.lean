/- The walk of io.copyBuffer from a limited reader of a text to the file's end. -/
import Derived.Test.YtgdghaijjhbegaaGreatDoorCopyB
import Derived.Lib.SliceRun
import Derived.Stop.Asserts
namespace Go.Proofs.YtgdghaijjhbegaaGreatDoor
open Go.RowKit
set_option maxRecDepth 100000

theorem run_neq_iface_ptr {P : Program} (w : World) {t tx e : TypeId} {ms : Array (String × TypeId)} (a : Addr)
    (ht : P.underlying t = some (.interface ms)) (hc : (P.info? tx).map (·.comparable) = some true) (hx : P.underlying tx = some (.pointer e)) {s : Nat} (hse : ∀ W, (sizeOf e).run P W = .ok s W) :
    (binOp .neq t (.iface tx (.pointer (some a))) (.iface tx (.pointer (some a)))).run P w = .ok (.bool false) w := by
  cases hi : P.info? tx with
  | none => simp [hi] at hc
  | some i =>
    have hcc : i.comparable = true := by simpa [hi] using hc
    have h : ∀ d : Nat, (Op.equalIn (d + 2) t (.iface tx (.pointer (some a))) (.iface tx (.pointer (some a)))).run P w = .ok true w := fun d => by
      simp [Op.equalIn, run_underlying ht, run_underlying hx, typeInfo, hi, hcc, hse, sameAddr]
    simp only [binOp]
    simp [Op.equal, Op.maxDepth, h 9998]

/-- In the midst of io.copyBuffer: i bytes are written; the buffer is the block that was new when it was made. -/
structure CopyRel (w wr : World) (F L S : Nat) (v v1 : Value) (bs xs : List UInt8) (i m : Nat) : Prop where
  f : FileAt wr F v1 (bs ++ xs.take i)
  l : LRAt wr L S (xs.length - i)
  s : SRAt wr S xs i
  b : ∃ cs, wr.heap[w.heap.size]? = some (.cells cs 5 (0, 0)) ∧ cs.size = m
  wrote : Wrote (fun k => k = F ∨ k = S ∨ k = L) w v wr v1
  vb : v1.ownBlock ≠ some w.heap.size

theorem CopyRel.start {w : World} {F L S : Nat} {v : Value} {bs xs : List UInt8} {cb : Array Value} (hf : FileAt w F v bs) (hl : LRAt w L S xs.length) (hs : SRAt w S xs 0) :
    CopyRel w (w.alloc (.cells cb 5)) F L S v v bs xs 0 cb.size := by
  have hb : Below w.heap.size w (w.alloc (.cells cb 5)) := (Below.refl _ _).alloc (Nat.le_refl _) _
  have hw : Wrote (fun _ => False) w (.slice none 0 0) (w.alloc (.cells cb 5)) (.slice none 0 0) := Wrote.of_below hb
  refine ⟨?_, hl.wrote hw id (by simp [Value.ownBlock]), hs.wrote hw id (by simp [Value.ownBlock]), ⟨cb, heap_alloc_new w _, rfl⟩, Wrote.of_below hb, fun e => ?_⟩
  · rw [List.take_zero, List.append_nil]; exact hf.below hb
  · have := (hf.own.lt _ e).2; omega

theorem FileAt.wrote {w w' : World} {F : Nat} {v : Value} {bs : List UInt8} (h : FileAt w F v bs) {T : Nat → Prop} (hw : Wrote T w (.slice none 0 0) w' (.slice none 0 0)) (hT : ¬ T F) (hv : ∀ k, v.ownBlock = some k → ¬ T k) : FileAt w' F v bs := by
  have hn : ∀ k, (Value.slice none 0 0).ownBlock ≠ some k := fun k => by simp [Value.ownBlock]
  refine ⟨Nat.lt_of_lt_of_le h.hi hw.size, hw.cell h.c1 hT (hn _), hw.cell h.c2 hT (hn _), hw.frozen h.hi h.f1 hT (hn _), hw.frozen h.hi h.f2 hT (hn _), h.own.1, ?_⟩
  rcases h.own.2 with hx | ⟨g, cap, cur, rfl, hb, hg, rest⟩
  · exact Or.inl hx
  · exact Or.inr ⟨g, cap, cur, rfl, hb, by rw [hw.block g (Array.getElem?_eq_some_iff.1 hg).1 (hv g rfl) (hn _)]; exact hg, rest⟩

theorem CopyRel.own_ne {w wr : World} {F L S : Nat} {v v1 : Value} {bs xs : List UInt8} {i m : Nat} (h : CopyRel w wr F L S v v1 bs xs i m) {k : Nat} (hk : k < w.heap.size) (hv : v.ownBlock ≠ some k) : v1.ownBlock ≠ some k := by
  rcases h.wrote.row with e | ⟨j, e, hj⟩
  · rw [e]; exact hv
  · rw [e]; simp; omega

theorem CopyRel.file {w wr w1 : World} {F L S : Nat} {v v1 : Value} {bs xs : List UInt8} {i m : Nat} (h : CopyRel w wr F L S v v1 bs xs i m) (hf : FileAt w F v bs) (hl : LRAt w L S xs.length) (hs : SRAt w S xs 0) (hFL : F ≠ L) (hFS : F ≠ S) (hvL : v.ownBlock ≠ some L) (hvS : v.ownBlock ≠ some S)
    (hw : Wrote (fun k => k = S ∨ k = w.heap.size ∨ k = L) wr (.slice none 0 0) w1 (.slice none 0 0)) : FileAt w1 F v1 (bs ++ xs.take i) := by
  have hF := hf.hi
  refine h.f.wrote hw (by simp only [not_or]; exact ⟨hFS, by omega, hFL⟩) (fun k hk => ?_)
  rintro (rfl | rfl | rfl)
  · exact h.own_ne hs.hi hvS hk
  · exact h.vb hk
  · exact h.own_ne hl.hi hvL hk

theorem CopyRel.write {F : Nat} {v1 : Value} {bs xs : List UInt8} {i r b cap : Nat} (W : World) (hf : FileAt W F v1 (bs ++ xs.take i)) (hby : BytesAt W b 0 ((xs.drop i).take r)) (hr : r ≤ cap) (hi : i + r ≤ xs.length) (hx : bs.length + xs.length ≤ 1099511627776) :
    Calls Tryz.prog 40 #[.pointer (some ⟨F, 0, none⟩), .slice (some ⟨b, 0, none⟩) r cap] W.drew
      fun e w' => e = .returned (.tuple #[.int .i64 r, .nilIface]) ∧ ∃ v', FileAt w' F v' (bs ++ xs.take (i + r)) ∧ Wrote (· = F) W v1 w' v' := by
  have hl : ((xs.drop i).take r).length = r := by rw [List.length_take, List.length_drop]; omega
  have h := Write_end F v1 (bs ++ xs.take i) ((xs.drop i).take r) b 0 cap W.drew ⟨hf.hi, hf.c1, hf.c2, hf.f1, hf.f2, hf.own⟩ hby (by omega) (by rw [List.length_append, List.length_take, hl]; omega)
  rw [hl, List.append_assoc, ← List.take_add] at h
  exact h.mono fun e w' ⟨h1, v', h2, h3⟩ => ⟨h1, v', h2, ⟨h3.os, h3.tape, h3.output, h3.size, h3.block, h3.row⟩⟩

theorem CopyRel.step {w wr w1 w2 : World} {F L S : Nat} {v v1 v2 : Value} {bs xs : List UInt8} {i r m : Nat} (h : CopyRel w wr F L S v v1 bs xs i m)
    (hg1 : ∃ cs', w1.heap[w.heap.size]? = some (.cells cs' 5 (0, 0)) ∧ cs'.size = m) (hl1 : LRAt w1 L S (xs.length - i - r)) (hs1 : SRAt w1 S xs (i + r)) (hw1 : Wrote (fun k => k = S ∨ k = w.heap.size ∨ k = L) wr v1 w1 v1)
    (hf2 : FileAt w2 F v2 (bs ++ xs.take (i + r))) (hw2 : Wrote (· = F) w1 v1 w2 v2) (hF : F < w.heap.size) (hFL : F ≠ L) (hFS : F ≠ S) (hvS : v1.ownBlock ≠ some S) (hvL : v1.ownBlock ≠ some L) :
    CopyRel w w2 F L S v v2 bs xs (i + r) m := by
  obtain ⟨cs', hg, hc⟩ := hg1
  have hbl : w.heap.size < w1.heap.size := (Array.getElem?_eq_some_iff.1 hg).1
  refine ⟨hf2, ?_, hs1.wrote hw2 (fun e => hFS e.symm) hvS, ⟨cs', (hw2.block _ hbl (by omega) h.vb).trans hg, hc⟩, ?_, ?_⟩
  · rw [show xs.length - (i + r) = xs.length - i - r by omega]; exact hl1.wrote hw2 (fun e => hFL e.symm) hvL
  · refine (h.wrote.trans' hw1 ?_).trans (hw2.weaken fun k _ e => Or.inl e)
    rintro k (e | e | e)
    · exact Or.inl (Or.inr (Or.inl e))
    · exact Or.inr (Nat.le_of_eq e.symm)
    · exact Or.inl (Or.inr (Or.inr e))
  · rcases hw2.row with e | ⟨j, e, hj⟩
    · rw [e]; exact h.vb
    · rw [e]; simp; omega

set_option maxHeartbeats 2000000 in
theorem copyBuffer_any (F L S : Nat) (v : Value) (bs xs : List UInt8) (ea : Addr) (w : World) (hf : FileAt w F v bs) (hl : LRAt w L S xs.length) (hs : SRAt w S xs 0)
    (hE : w.cell? ⟨0, 0, none⟩ = some (.iface 132 (.pointer (some ea)))) (hGF : 0 < F) (hGL : 0 ≠ L) (hGS : 0 ≠ S) (hx : bs.length + xs.length ≤ 1099511627776)
    (hFL : F ≠ L) (hFS : F ≠ S) (hLS : L ≠ S) (hvL : v.ownBlock ≠ some L) (hvS : v.ownBlock ≠ some S) :
    Calls Tryz.prog 85 #[.iface 40 (.pointer (some ⟨F, 0, none⟩)), .iface 137 (.pointer (some ⟨L, 0, none⟩)), .slice none 0 0] w
      fun e w' => e = .returned (.tuple #[.int .i64 xs.length, .nilIface]) ∧ ∃ v', FileAt w' F v' (bs ++ xs) ∧ Wrote (fun k => k = F ∨ k = S ∨ k = L) w v w' v' := by
  have c1 := hl.c1
  have qE : ∀ W, (binOp .neq 37 (.iface 132 (.pointer (some ea))) (.iface 132 (.pointer (some ea)))).run Tryz.prog W = .ok (.bool false) W := fun W => run_neq_iface_ptr W ea Tryz.underlying37 (by kernel_rfl) Tryz.underlying132 (s := 1) (fun _ => by kernel_rfl)
  have qT : ∀ (w : World) (a : Option Addr) (n c n' c' : Nat), (binOp .eql 42 (.slice a n c) (.slice none n' c')).run Tryz.prog w = .ok (.bool a.isNone) w := fun w a n c n' c' => Lib.run_eql_slice_nil w _ _ a n c n' c' Tryz.underlying42
  have ta1 : ∀ W, (Instr.typeAssert (.iface 137 (.pointer (some ⟨L, 0, none⟩))) 83 168 true).run Tryz.prog W = .ok (.tuple #[.nilIface, .bool false]) W := fun W => run_typeAssert_lacksB Tryz.underlying168 (by kernel_rfl) (by kernel_rfl) _ _ W
  have ta2 : ∀ W, (Instr.typeAssert (.iface 40 (.pointer (some ⟨F, 0, none⟩))) 116 172 true).run Tryz.prog W = .ok (.tuple #[.nilIface, .bool false]) W := fun W => run_typeAssert_lacksB Tryz.underlying172 (by kernel_rfl) (by kernel_rfl) _ _ W
  have ta3 : ∀ W, (Instr.typeAssert (.iface 137 (.pointer (some ⟨L, 0, none⟩))) 83 137 true).run Tryz.prog W = .ok (.tuple #[.pointer (some ⟨L, 0, none⟩), .bool true]) W := fun _ => by kernel_rfl
  have hN1 : ∀ W, (nilAhead 327 137 (.pointer (some ⟨L, 0, none⟩)) "Read").run Tryz.prog W = .ok (some false) W := fun _ => by kernel_rfl
  have hM1 : ∀ W, (method 327 137 (.pointer (some ⟨L, 0, none⟩)) "Read").run Tryz.prog W = .ok (149, .pointer (some ⟨L, 0, none⟩)) W := fun _ => by kernel_rfl
  have hN2 : ∀ W, (nilAhead 327 40 (.pointer (some ⟨F, 0, none⟩)) "Write").run Tryz.prog W = .ok (some false) W := fun _ => by kernel_rfl
  have hM2 : ∀ W, (method 327 40 (.pointer (some ⟨F, 0, none⟩)) "Write").run Tryz.prog W = .ok (40, .pointer (some ⟨F, 0, none⟩)) W := fun _ => by kernel_rfl
  have hkey : (xs.length = 0) ∨ (0 < xs.length ∧ xs.length < 32768) ∨ 32768 ≤ xs.length := by omega
  rcases hkey with hk | hk | hk
  · have hk1 : (xs.length : Int) < 32768 := by omega
    have hk2 : (xs.length : Int) < 1 := by omega
    have HK := hide hk
    clear hk
    obtain ⟨cb, hcb, hmk⟩ := make_bytes 1 1 rfl (by omega)
    go_enter Tryz.func85, Tryz.ntmps85
    go_wp2
    clear hk1 hk2 hmk ta1 ta2 ta3
    go_loopw [6, 7] (fun s6 s7 wr => ∃ (i : Nat) (v1 : Value), s6 = .int .i64 i ∧ s7 = .nilIface ∧ i ≤ xs.length ∧ CopyRel w wr F L S v v1 bs xs i cb.size) (fun s6 _ _ => xs.length - (intOf s6).toNat)
    case atStart => exact ⟨0, v, rfl, rfl, Nat.zero_le _, CopyRel.start hf hl hs⟩
    case round =>
      obtain ⟨i, v1, rfl, rfl, hi, hr⟩ := hrel
      have hEr : wr.cell? ⟨0, 0, none⟩ = some (.iface 132 (.pointer (some ea))) := hr.wrote.cell hE (by simp; omega) (hf.own_ne (k := 0) (by omega))
      by_cases hlt : i < xs.length
      · obtain ⟨cs, hg, hcs⟩ := hr.b
        obtain ⟨r, hr0, hrn, hrm, hL⟩ : ∃ r : Nat, 0 < r ∧ r ≤ xs.length - i ∧ r ≤ 1 ∧ Calls Tryz.prog 149 #[.pointer (some ⟨L, 0, none⟩), .slice (some ⟨w.heap.size, 0, none⟩) 1 1] wr
            fun e w' => e = .returned (.tuple #[.int .i64 r, .nilIface]) ∧ LRAt w' L S (xs.length - i - r) ∧ SRAt w' S xs (i + r) ∧ (∃ cs', w'.heap[w.heap.size]? = some (.cells cs' 5 (0, 0)) ∧ cs'.size = cs.size) ∧ BytesAt w' w.heap.size 0 ((xs.drop i).take r) ∧ ∀ v, Wrote (fun k => k = S ∨ k = w.heap.size ∨ k = L) wr v w' v :=
          ⟨min 1 (xs.length - i), by omega, by omega, by omega, LRead_any L S w.heap.size 1 1 xs i (xs.length - i) cs 5 wr hr.l hr.s hg (by omega) (by omega) (by omega) (by omega) (by omega) (by omega) (by have := hs.hi; omega) (by have := hl.hi; omega) hLS⟩
        have hW := fun W h1 h2 => hide (CopyRel.write (F := F) (bs := bs) (xs := xs) (i := i) (r := r) (v1 := v1) (b := w.heap.size) (cap := 1) W h1 h2 hrm (by omega) hx)
        have hr0' : (0 : Int) < r := by omega
        have hrm' : (r : Int) ≤ 1 := by omega
        have HL := hide hL
        clear hL
        go_wp2_with (go_at_call 149; (with_reducible refine (HL.out).mono ?_); rintro e w1 ⟨rfl, hl1, hs1, hg1, hby1, hw1⟩; have hf1 := hr.file hf hl hs hFL hFS hvL hvS (hw1 (.slice none 0 0)))
        go_region_held3 (fun _ => True) (trivial) (first | (go_at_call 40; (with_reducible refine ((hW _ hf1 hby1).out).mono ?_); rintro e w2 ⟨rfl, v2, hf2, hw2⟩))
        go_wp2
        go_roundw
        case rel => exact ⟨i + r, v2, by go_num, rfl, by omega, hr.step (hcs ▸ hg1) hl1 hs1 (hw1 v1) hf2 hw2 hf.hi hFL hFS (hr.own_ne hs.hi hvS) (hr.own_ne hl.hi hvL)⟩
        case measure => simp [intOf]; omega
      · have hl0 : LRAt wr L S 0 := by have := hr.l; rw [show xs.length - i = 0 by omega] at this; exact this
        have hfin : FileAt wr F v1 (bs ++ xs) := by have := hr.f; rw [List.take_of_length_le (by omega)] at this; exact this
        have hil : i = xs.length := by omega
        subst hil
        go_wp2_with (go_at_call 149; (with_reducible refine (LRead_end L S _ _ _ _ _ hl0 hEr).mono ?_); rintro e w1 ⟨rfl, hb1⟩; have hE1 : w1.cell? ⟨0, 0, none⟩ = _ := (hb1.cell (p := ⟨0, 0, none⟩) (World.block_lt_of_cell? wr _ hEr)).trans hEr)
        go_ret2
        exact ⟨rfl, v1, hfin.below hb1, hr.wrote.trans (Wrote.of_below hb1)⟩
  · have hk1 : (xs.length : Int) < 32768 := by omega
    have hk2 : ¬ ((xs.length : Int) < 1) := by omega
    obtain ⟨cb, hcb, hmk⟩ := make_bytes (xs.length : Int) xs.length rfl (by omega)
    go_enter Tryz.func85, Tryz.ntmps85
    go_wp2
    clear hk1 hk2 hmk ta1 ta2 ta3
    go_loopw [6, 7] (fun s6 s7 wr => ∃ (i : Nat) (v1 : Value), s6 = .int .i64 i ∧ s7 = .nilIface ∧ i ≤ xs.length ∧ CopyRel w wr F L S v v1 bs xs i cb.size) (fun s6 _ _ => xs.length - (intOf s6).toNat)
    case atStart => exact ⟨0, v, rfl, rfl, Nat.zero_le _, CopyRel.start hf hl hs⟩
    case round =>
      obtain ⟨i, v1, rfl, rfl, hi, hr⟩ := hrel
      have hEr : wr.cell? ⟨0, 0, none⟩ = some (.iface 132 (.pointer (some ea))) := hr.wrote.cell hE (by simp; omega) (hf.own_ne (k := 0) (by omega))
      by_cases hlt : i < xs.length
      · obtain ⟨cs, hg, hcs⟩ := hr.b
        obtain ⟨r, hr0, hrn, hrm, hL⟩ : ∃ r : Nat, 0 < r ∧ r ≤ xs.length - i ∧ r ≤ xs.length ∧ Calls Tryz.prog 149 #[.pointer (some ⟨L, 0, none⟩), .slice (some ⟨w.heap.size, 0, none⟩) xs.length xs.length] wr
            fun e w' => e = .returned (.tuple #[.int .i64 r, .nilIface]) ∧ LRAt w' L S (xs.length - i - r) ∧ SRAt w' S xs (i + r) ∧ (∃ cs', w'.heap[w.heap.size]? = some (.cells cs' 5 (0, 0)) ∧ cs'.size = cs.size) ∧ BytesAt w' w.heap.size 0 ((xs.drop i).take r) ∧ ∀ v, Wrote (fun k => k = S ∨ k = w.heap.size ∨ k = L) wr v w' v :=
          ⟨min xs.length (xs.length - i), by omega, by omega, by omega, LRead_any L S w.heap.size xs.length xs.length xs i (xs.length - i) cs 5 wr hr.l hr.s hg (by omega) (by omega) (by omega) (by omega) (by omega) (by omega) (by have := hs.hi; omega) (by have := hl.hi; omega) hLS⟩
        have hW := fun W h1 h2 => hide (CopyRel.write (F := F) (bs := bs) (xs := xs) (i := i) (r := r) (v1 := v1) (b := w.heap.size) (cap := xs.length) W h1 h2 hrm (by omega) hx)
        have hr0' : (0 : Int) < r := by omega
        have hrm' : (r : Int) ≤ xs.length := by omega
        have HL := hide hL
        clear hL
        go_wp2_with (go_at_call 149; (with_reducible refine (HL.out).mono ?_); rintro e w1 ⟨rfl, hl1, hs1, hg1, hby1, hw1⟩; have hf1 := hr.file hf hl hs hFL hFS hvL hvS (hw1 (.slice none 0 0)))
        go_region_held3 (fun _ => True) (trivial) (first | (go_at_call 40; (with_reducible refine ((hW _ hf1 hby1).out).mono ?_); rintro e w2 ⟨rfl, v2, hf2, hw2⟩))
        go_wp2
        go_roundw
        case rel => exact ⟨i + r, v2, by go_num, rfl, by omega, hr.step (hcs ▸ hg1) hl1 hs1 (hw1 v1) hf2 hw2 hf.hi hFL hFS (hr.own_ne hs.hi hvS) (hr.own_ne hl.hi hvL)⟩
        case measure => simp [intOf]; omega
      · have hl0 : LRAt wr L S 0 := by have := hr.l; rw [show xs.length - i = 0 by omega] at this; exact this
        have hfin : FileAt wr F v1 (bs ++ xs) := by have := hr.f; rw [List.take_of_length_le (by omega)] at this; exact this
        have hil : i = xs.length := by omega
        subst hil
        go_wp2_with (go_at_call 149; (with_reducible refine (LRead_end L S _ _ _ _ _ hl0 hEr).mono ?_); rintro e w1 ⟨rfl, hb1⟩; have hE1 : w1.cell? ⟨0, 0, none⟩ = _ := (hb1.cell (p := ⟨0, 0, none⟩) (World.block_lt_of_cell? wr _ hEr)).trans hEr)
        go_ret2
        exact ⟨rfl, v1, hfin.below hb1, hr.wrote.trans (Wrote.of_below hb1)⟩
  · have hk1 : ¬ (xs.length < 32768) := by omega
    obtain ⟨cb, hcb, hmk⟩ := make_bytes 32768 32768 rfl (by omega)
    have hk2 : ¬ ((xs.length : Int) < 32768) := by omega
    go_enter Tryz.func85, Tryz.ntmps85
    go_wp2
    clear hk1 hk2 hmk ta1 ta2 ta3
    go_loopw [6, 7] (fun s6 s7 wr => ∃ (i : Nat) (v1 : Value), s6 = .int .i64 i ∧ s7 = .nilIface ∧ i ≤ xs.length ∧ CopyRel w wr F L S v v1 bs xs i cb.size) (fun s6 _ _ => xs.length - (intOf s6).toNat)
    case atStart => exact ⟨0, v, rfl, rfl, Nat.zero_le _, CopyRel.start hf hl hs⟩
    case round =>
      obtain ⟨i, v1, rfl, rfl, hi, hr⟩ := hrel
      have hEr : wr.cell? ⟨0, 0, none⟩ = some (.iface 132 (.pointer (some ea))) := hr.wrote.cell hE (by simp; omega) (hf.own_ne (k := 0) (by omega))
      by_cases hlt : i < xs.length
      · obtain ⟨cs, hg, hcs⟩ := hr.b
        obtain ⟨r, hr0, hrn, hrm, hL⟩ : ∃ r : Nat, 0 < r ∧ r ≤ xs.length - i ∧ r ≤ 32768 ∧ Calls Tryz.prog 149 #[.pointer (some ⟨L, 0, none⟩), .slice (some ⟨w.heap.size, 0, none⟩) 32768 32768] wr
            fun e w' => e = .returned (.tuple #[.int .i64 r, .nilIface]) ∧ LRAt w' L S (xs.length - i - r) ∧ SRAt w' S xs (i + r) ∧ (∃ cs', w'.heap[w.heap.size]? = some (.cells cs' 5 (0, 0)) ∧ cs'.size = cs.size) ∧ BytesAt w' w.heap.size 0 ((xs.drop i).take r) ∧ ∀ v, Wrote (fun k => k = S ∨ k = w.heap.size ∨ k = L) wr v w' v :=
          ⟨min 32768 (xs.length - i), by omega, by omega, by omega, LRead_any L S w.heap.size 32768 32768 xs i (xs.length - i) cs 5 wr hr.l hr.s hg (by omega) (by omega) (by omega) (by omega) (by omega) (by omega) (by have := hs.hi; omega) (by have := hl.hi; omega) hLS⟩
        have hW := fun W h1 h2 => hide (CopyRel.write (F := F) (bs := bs) (xs := xs) (i := i) (r := r) (v1 := v1) (b := w.heap.size) (cap := 32768) W h1 h2 hrm (by omega) hx)
        have hr0' : (0 : Int) < r := by omega
        have hrm' : (r : Int) ≤ 32768 := by omega
        have HL := hide hL
        clear hL
        go_wp2_with (go_at_call 149; (with_reducible refine (HL.out).mono ?_); rintro e w1 ⟨rfl, hl1, hs1, hg1, hby1, hw1⟩; have hf1 := hr.file hf hl hs hFL hFS hvL hvS (hw1 (.slice none 0 0)))
        go_region_held3 (fun _ => True) (trivial) (first | (go_at_call 40; (with_reducible refine ((hW _ hf1 hby1).out).mono ?_); rintro e w2 ⟨rfl, v2, hf2, hw2⟩))
        go_wp2
        go_roundw
        case rel => exact ⟨i + r, v2, by go_num, rfl, by omega, hr.step (hcs ▸ hg1) hl1 hs1 (hw1 v1) hf2 hw2 hf.hi hFL hFS (hr.own_ne hs.hi hvS) (hr.own_ne hl.hi hvL)⟩
        case measure => simp [intOf]; omega
      · have hl0 : LRAt wr L S 0 := by have := hr.l; rw [show xs.length - i = 0 by omega] at this; exact this
        have hfin : FileAt wr F v1 (bs ++ xs) := by have := hr.f; rw [List.take_of_length_le (by omega)] at this; exact this
        have hil : i = xs.length := by omega
        subst hil
        go_wp2_with (go_at_call 149; (with_reducible refine (LRead_end L S _ _ _ _ _ hl0 hEr).mono ?_); rintro e w1 ⟨rfl, hb1⟩; have hE1 : w1.cell? ⟨0, 0, none⟩ = _ := (hb1.cell (p := ⟨0, 0, none⟩) (World.block_lt_of_cell? wr _ hEr)).trans hEr)
        go_ret2
        exact ⟨rfl, v1, hfin.below hb1, hr.wrote.trans (Wrote.of_below hb1)⟩
end Go.Proofs.YtgdghaijjhbegaaGreatDoor

/- The walks of io.CopyN and of what it calls. -/
namespace Go.Proofs.YtgdghaijjhbegaaGreatDoor
open Go.RowKit
set_option maxRecDepth 100000

set_option maxHeartbeats 1000000 in
theorem CopyN_any (F S : Nat) (v : Value) (bs xs : List UInt8) (ea : Addr) (w : World) (hf : FileAt w F v bs) (hs : SRAt w S xs 0)
    (hE : w.cell? ⟨0, 0, none⟩ = some (.iface 132 (.pointer (some ea)))) (hGF : 0 < F) (hGS : 0 ≠ S) (hx : bs.length + xs.length ≤ 1099511627776)
    (hFS : F ≠ S) (hvS : v.ownBlock ≠ some S) :
    Calls Tryz.prog 44 #[.iface 40 (.pointer (some ⟨F, 0, none⟩)), .iface 58 (.pointer (some ⟨S, 0, none⟩)), .int .i64 xs.length] w
      fun e w' => e = .returned (.tuple #[.int .i64 xs.length, .nilIface]) ∧ ∃ v', FileAt w' F v' (bs ++ xs) ∧ Wrote (fun k => k = F ∨ k = S) w v w' v' := by
  have hb : ∀ cb t, Below w.heap.size w (w.alloc (.cells cb t)) := fun cb t => (Below.refl _ _).alloc (Nat.le_refl _) _
  have hC : ∀ w1, Below w.heap.size w w1 → LRAt w1 w.heap.size S xs.length → Hid (Calls Tryz.prog 85 #[.iface 40 (.pointer (some ⟨F, 0, none⟩)), .iface 137 (.pointer (some ⟨w.heap.size, 0, none⟩)), .slice none 0 0] w1
      fun e w' => e = .returned (.tuple #[.int .i64 xs.length, .nilIface]) ∧ ∃ v', FileAt w' F v' (bs ++ xs) ∧ Wrote (fun k => k = F ∨ k = S) w v w' v') := fun w1 hb hl => by
    have hw : Wrote (fun _ => False) w (.slice none 0 0) w1 (.slice none 0 0) := Wrote.of_below hb
    have hF := hf.hi
    have hS := hs.hi
    have hG := World.block_lt_of_cell? w _ hE
    refine (copyBuffer_any F w.heap.size S v bs xs ea w1 (hf.below hb) hl (hs.wrote hw id (by simp [Value.ownBlock])) ((hb.cell (p := ⟨0, 0, none⟩) hG).trans hE) hGF (by have : 0 < w.heap.size := hG; omega) hGS hx (by omega) hFS (by omega) (fun e => ?_) hvS).mono ?_
    · have := (hf.own.lt _ e).2; omega
    · rintro e w' ⟨h1, v', h2, h3⟩
      refine ⟨h1, v', h2, (show Wrote (fun k => k = F ∨ k = S) w v w1 v from Wrote.of_below hb).trans' h3 ?_⟩
      rintro k (e | e | e)
      · exact Or.inl (Or.inl e)
      · exact Or.inl (Or.inr e)
      · exact Or.inr (Nat.le_of_eq e.symm)
  have hlr : LRAt (w.alloc (.cells #[.iface 58 (.pointer (some ⟨S, 0, none⟩)), .int .i64 xs.length] 139)) w.heap.size S xs.length :=
    ⟨by simp, by rw [cell_of_heap _ _ _ _ _ _ (heap_alloc_new w _)]; rfl, by rw [cell_of_heap _ _ _ _ _ _ (heap_alloc_new w _)]; rfl, frozen_of_heap _ _ _ _ _ (heap_alloc_new w _)⟩
  have HC := hC _ (hb _ _) hlr
  clear hC hlr
  go_enter Tryz.func44, Tryz.ntmps44
  go_wp2_with (first | (go_at_call 66; go_in) | (go_at_call 65; go_in) | (go_at_call 85; (with_reducible refine (HC.out).mono ?_); rintro e w2 ⟨rfl, v', h2, h3⟩))
  go_ret2
  exact ⟨rfl, v', h2, h3⟩
end Go.Proofs.YtgdghaijjhbegaaGreatDoor
