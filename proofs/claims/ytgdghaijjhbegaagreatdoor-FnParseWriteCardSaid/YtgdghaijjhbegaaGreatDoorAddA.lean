/- The walk of (*Archive).AddEntry. -/
import Derived.Test.YtgdghaijjhbegaaGreatDoorCopyC
namespace Go.Proofs.YtgdghaijjhbegaaGreatDoor
open Go.RowKit
set_option maxRecDepth 100000

/-- The conversion of a text to bytes: in a new block. -/
theorem to_bytes (w : World) (xs : List UInt8) : ∃ (w' : World) (cap : Nat), (convert 9 42 (.string ⟨xs.toArray⟩)).run Tryz.prog w = .ok (.slice (some ⟨w.heap.size, 0, none⟩) xs.length cap) w' ∧
    xs.length ≤ cap ∧ Below w.heap.size w w' ∧ BytesAt w' w.heap.size 0 xs := by
  have hv := Lib.run_convert_string_bytes (P := Tryz.prog) w 9 42 5 ⟨xs.toArray⟩ Tryz.underlying9 Tryz.underlying42 Tryz.underlying5
  have hsz : (ByteArray.mk xs.toArray).size = xs.length := by simp [ByteArray.size]
  rw [hsz] at hv
  exact ⟨_, _, hv, grownCap_ge w xs.length 0 5, below_bytesWorld w 5 ⟨xs.toArray⟩, bytesAt_bytesWorld w 5 xs⟩

theorem and1 (m : Nat) (hm : m < 9223372036854775808) : bits BinOp.and IntKind.i64 (m : Int) 1 = ((m % 2 : Nat) : Int) := by
  have e : (BitVec.ofInt 64 (m : Int)).toNat = m := by
    rw [BitVec.ofInt_natCast, BitVec.toNat_ofNat]; exact Nat.mod_eq_of_lt (by omega)
  have h1 : (BitVec.ofInt 64 (1 : Int)).toNat = 1 := by decide
  show IntKind.i64.wrap ((BitVec.ofInt 64 (m : Int) &&& BitVec.ofInt 64 (1 : Int)).toNat : Int) = _
  rw [BitVec.toNat_and, e, h1, show (1 : Nat) = 2 ^ 1 - 1 from rfl, Nat.and_two_pow_sub_one_eq_mod]
  have : m % 2 ^ 1 < 2 := Nat.mod_lt _ (by decide)
  rw [IntKind.wrap_i64]
  omega

/-- An archive that is written: its file, the archive's cells, its entries' row. -/
structure AddAt (w : World) (F A : Nat) (v : Value) (bs : List UInt8) (k : Nat) : Prop where
  f : FileAt w F v bs
  hi : A < w.heap.size
  fa : F < A
  va : v.ownBlock ≠ some A
  c0 : w.cell? ⟨A, 0, none⟩ = some (.pointer (some ⟨F, 0, none⟩))
  f1 : w.frozen? ⟨A, 1, none⟩ = false
  own : ∃ u es, w.cell? ⟨A, 1, none⟩ = some u ∧ w.ownsRow (A + 1) 53 9 u k es

theorem AddAt.c1 {w : World} {F A : Nat} {v : Value} {bs : List UInt8} {k : Nat} (h : AddAt w F A v bs k) : ∃ (p : Option Addr) (cap : Nat) (es : List Value), w.cell? ⟨A, 1, none⟩ = some (.slice p k cap) ∧ w.ownsRow (A + 1) 53 9 (.slice p k cap) k es := by
  obtain ⟨u, es, h1, h2⟩ := h.own
  rcases h2.2 with ⟨rfl, rfl⟩ | ⟨g, cap, cur, rfl, _⟩
  · exact ⟨_, _, es, h1, h2⟩
  · exact ⟨_, _, es, h1, h2⟩

/-- The file is written: the archive stands. -/
theorem AddAt.wrote {w w' : World} {F A : Nat} {v v' : Value} {bs ys : List UInt8} {k : Nat} (h : AddAt w F A v bs k) {T : Nat → Prop} (hw : Wrote T w v w' v') (hf : FileAt w' F v' ys) (hT : ∀ j, T j → j = F ∨ (j < w.heap.size ∧ ∀ cs, w.heap[j]? ≠ some (.cells cs 53 (0, 0)) ∧ j ≠ A)) : AddAt w' F A v' ys k := by
  have hTA : ¬ T A := fun e => by
    rcases hT A e with e | ⟨_, e⟩
    · exact absurd e (Nat.ne_of_gt h.fa)
    · exact (e #[]).2 rfl
  obtain ⟨u, es, h1, h2⟩ := h.own
  refine ⟨hf, Nat.lt_of_lt_of_le h.hi hw.size, h.fa, ?_, hw.cell h.c0 hTA h.va, hw.frozen h.hi h.f1 hTA h.va, u, es, hw.cell h1 hTA h.va, h2.1, ?_⟩
  · rcases hw.row with e | ⟨j, e, hj⟩
    · rw [e]; exact h.va
    · have := h.hi; rw [e]; simp; omega
  · rcases h2.2 with hx | ⟨g, cap, cur, rfl, hb, hg, rest⟩
    · exact Or.inl hx
    · refine Or.inr ⟨g, cap, cur, rfl, hb, ?_, rest⟩
      rw [hw.block g (Array.getElem?_eq_some_iff.1 hg).1 (fun e => ?_) (fun e => ?_)]
      · exact hg
      · rcases hT g e with e | ⟨_, e⟩
        · have := h.fa; omega
        · exact (e cur).1 hg
      · rcases h.f.own.2 with ⟨rfl, _⟩ | ⟨g', cap', cur', rfl, _, hg', _⟩
        · simp [Value.ownBlock] at e
        · simp [Value.ownBlock] at e
          subst e
          rw [hg] at hg'
          injection hg' with hg'
          injection hg' with _ h5
          exact absurd h5 (by decide)

theorem slice_form {w : World} {base : Nat} {e : TypeId} {size : Nat} {v : Value} {n : Nat} {xs : List Value} (h : w.ownsRow base e size v n xs) : ∃ (p : Option Addr) (c : Nat), v = .slice p n c := by
  rcases h.2 with ⟨rfl, rfl⟩ | ⟨g, c, cur, rfl, _⟩
  · exact ⟨_, _, rfl⟩
  · exact ⟨_, _, rfl⟩

/-- An entry is laid behind the others. -/
theorem AddAt.appended {w w1 : World} {F A : Nat} {v u u' : Value} {bs : List UInt8} {k : Nat} {es es' : List Value} (h : AddAt w F A v bs k) (h1 : w.cell? ⟨A, 1, none⟩ = some u) (h2 : w.ownsRow (A + 1) 53 9 u k es)
    (hg : w.grownBy w1 u.ownBlock) (hown : w1.ownsRow (A + 1) 53 9 u' (k + 1) es') :
    AddAt (w1.setCell ⟨A, 1, none⟩ u') F A v bs (k + 1) ∧ Below F w (w1.setCell ⟨A, 1, none⟩ u') := by
  have hu : ∀ j, u.ownBlock = some j → A < j := fun j e => by have := (h2.lt j e).1; omega
  have hne : some A ≠ u.ownBlock := fun e => by have := hu A e.symm; omega
  have hAb := hg.block A h.hi hne
  have hc1 : w1.cell? ⟨A, 1, none⟩ = some u := hg.cell h1 hne
  have hFA := h.fa
  have hw1 : Wrote (fun j => u.ownBlock = some j) w (.slice none 0 0) w1 (.slice none 0 0) := ⟨hg.os, hg.tape, hg.output, hg.size, fun j hj hS _ => hg.block j hj (fun e => hS e.symm), Or.inl rfl⟩
  have hw2 : Wrote (fun j => u.ownBlock = some j ∨ j = A) w (.slice none 0 0) (w1.setCell ⟨A, 1, none⟩ u') (.slice none 0 0) :=
    (hw1.weaken fun _ _ e => Or.inl e).set (S := fun j => u.ownBlock = some j ∨ j = A) (p := ⟨A, 1, none⟩) (Or.inl (Or.inr rfl)) _
  have hTF : ¬ (u.ownBlock = some F ∨ F = A) := by
    rintro (e | e)
    · have := hu F e; omega
    · omega
  have hvt : ∀ j, v.ownBlock = some j → ¬ (u.ownBlock = some j ∨ j = A) := by
    intro j hj
    rintro (e | rfl)
    · rcases h.f.own.2 with ⟨rfl, _⟩ | ⟨g', cap', cur', rfl, _, hg', _⟩
      · simp [Value.ownBlock] at hj
      · rcases h2.2 with ⟨rfl, _⟩ | ⟨g, cap, cur, rfl, _, hgg, _⟩
        · simp [Value.ownBlock] at e
        · simp only [Value.ownBlock, Option.some.injEq] at hj e
          subst hj
          subst e
          rw [hgg] at hg'
          injection hg' with hg'
          injection hg' with _ h5
          exact absurd h5 (by decide)
    · exact h.va hj
  refine ⟨⟨h.f.wrote hw2 hTF hvt, Nat.lt_of_lt_of_le h.hi hw2.size, h.fa, h.va, ?_, ?_, u', es', World.cell?_setCell_same _ _ _ hc1, ownsRow_setCell_below hown (Nat.lt_succ_self A) _⟩, ?_⟩
  · rw [World.cell?_setCell_other _ _ _ _ (by simp)]; exact hg.cell h.c0 hne
  · rw [World.frozen?_setCell]; exact (World.frozen?_of_block (w := w) hAb).trans h.f1
  · refine hw2.below (by have := h.hi; omega) (fun j hj => ?_) (fun j _ => by simp [Value.ownBlock])
    rintro (e | e)
    · have := hu j e; omega
    · omega

/-- append of one entry to the entries: what it gives. -/
theorem entries_append (W : World) (A k c : Nat) (p : Option Addr) (es vs : List Value) (hown : W.ownsRow (A + 1) 53 9 (.slice p k c) k es) (hA : A < W.heap.size) (hk : k ≤ 1000000) (hvs : vs.length = 9) (h1 : ∀ u ∈ vs, u.oneCell' = true) :
    ∃ (p' : Option Addr) (c' : Nat) (w1 : World), (Builtin.append_ #[43, 43] 43 #[.slice p k c, .slice (some ⟨W.heap.size, 0, none⟩) 1 1]).run Tryz.prog (W.alloc (.cells vs.toArray 53)) = .ok (.slice p' (k + 1) c') w1 ∧
      W.grownBy w1 (Value.slice p k c).ownBlock ∧ w1.ownsRow (A + 1) 53 9 (.slice p' (k + 1) c') (k + 1) (es ++ vs) := by
  obtain ⟨z, i0, hz, hzs, hi, hsz, hby⟩ : ∃ z i, i.zero = some z ∧ z.cells.size = 9 ∧ (Tryz.prog.info? 53) = some i ∧ i.size = 9 ∧ i.bytes = 80 := by
    have h : (Tryz.prog.info? 53).map (fun i => (i.zero.map (·.cells.size), i.size, i.bytes)) = some (some 9, 9, 80) := by kernel_rfl
    obtain ⟨i, hi, hq⟩ := Option.map_eq_some_iff.1 h
    simp only [Prod.mk.injEq] at hq
    obtain ⟨z, hz, hzs⟩ := Option.map_eq_some_iff.1 hq.1
    exact ⟨z, i, hz, hzs, hi, hq.2.1, hq.2.2⟩
  have hg := World.grownBy_alloc W (.cells vs.toArray 53) (Value.slice p k c).ownBlock
  obtain ⟨v', w1, hr, ho, hgr, _⟩ := run_append_own (P := Tryz.prog) (W.alloc (.cells vs.toArray 53)) (A + 1) 43 43 53 i0 z 9 80 Tryz.underlying43 hi hz hsz hby hzs (by decide)
    (.slice p k c) k es (hown.alloc _) ⟨W.heap.size, 0, none⟩ 1 1 vs (by omega)
    (fun j u hj => by
      have hadd : (⟨W.heap.size, 0, none⟩ : Addr).add j = ⟨W.heap.size, j, none⟩ := by unfold Addr.add; split <;> simp_all
      rw [hadd, cell_of_heap _ _ _ _ _ _ (heap_alloc_new W _)]; simpa using hj) h1 (by simp only [maxLen]; omega) (by omega) (by simp; omega)
  obtain ⟨p', c', rfl⟩ := slice_form ho
  exact ⟨p', c', w1, hr, hg.trans hgr, ho⟩

/-- An entry of the caller's, in a block of its own, stands while the file is written. -/
theorem FileAt.keeps {w w' : World} {F : Nat} {v v' : Value} {bs : List UInt8} {T : Nat → Prop} (h : FileAt w F v bs) (hw : Wrote T w v w' v') {j : Nat} {cs : Array Value} {fz : Nat × Nat} (hj : w.heap[j]? = some (.cells cs 31 fz)) (hT : ¬ T j) :
    w'.heap[j]? = some (.cells cs 31 fz) := by
  rw [hw.block j (Array.getElem?_eq_some_iff.1 hj).1 hT (fun e => ?_)]
  · exact hj
  · rcases h.own.2 with ⟨rfl, _⟩ | ⟨g', cap', cur', rfl, _, hg', _⟩
    · simp [Value.ownBlock] at e
    · simp only [Value.ownBlock, Option.some.injEq] at e
      subst e
      rw [hj] at hg'
      injection hg' with hg'
      injection hg' with _ h5
      exact absurd h5 (by decide)

theorem appended_keeps {w w1 : World} {A k : Nat} {u u' : Value} {es : List Value} (h2 : w.ownsRow (A + 1) 53 9 u k es) (hg : w.grownBy w1 u.ownBlock) {j : Nat} {cs : Array Value} {fz : Nat × Nat} (hj : w.heap[j]? = some (.cells cs 31 fz)) (hA : j ≠ A) :
    (w1.setCell ⟨A, 1, none⟩ u').heap[j]? = some (.cells cs 31 fz) := by
  rw [Below.heap_setCell w1 ⟨A, 1, none⟩ u' j hA, hg.block j (Array.getElem?_eq_some_iff.1 hj).1 (fun e => ?_)]
  · exact hj
  · rcases h2.2 with ⟨rfl, _⟩ | ⟨g', cap', cur', rfl, _, hg', _⟩
    · simp [Value.ownBlock] at e
    · simp only [Value.ownBlock, Option.some.injEq] at e
      subst e
      rw [hj] at hg'
      injection hg' with hg'
      injection hg' with _ h5
      exact absurd h5 (by decide)
end Go.Proofs.YtgdghaijjhbegaaGreatDoor
