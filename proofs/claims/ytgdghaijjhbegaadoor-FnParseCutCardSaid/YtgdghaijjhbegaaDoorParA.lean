/- What parseArchive's rounds keep; the entries that it lays. -/
import Derived.Test.YtgdghaijjhbegaaDoorGetA
import Derived.Laws.AppendOwn
import Derived.Maps.AppendAt
namespace Go.Proofs.YtgdghaijjhbegaaDoor
open Go.RowKit
set_option maxRecDepth 100000

theorem OAt.trod {w w' : World} {R A V U B F D cap : Nat} {data : List UInt8} {pos : Nat} {err : Value} {tmp : List Value} (h : OAt w R A V U B F D cap data pos err tmp) {S : Nat → Prop} (ht : Trod S w w') (hS : ∀ k, S k → w.heap.size ≤ k) : OAt w' R A V U B F D cap data pos err tmp :=
  h.quiet ⟨ht.os, ht.tape, ht.output, ht.size, fun k hk _ => ht.block k hk (fun e => by have := hS k e; omega)⟩

theorem PArc.trod {w w' : World} {A V k : Nat} {es : List Value} (h : PArc w A V k es) {S : Nat → Prop} (ht : Trod S w w') (hS : ∀ j, S j → (j ≤ V ∧ j ≠ A) ∨ w.heap.size ≤ j) : PArc w' A V k es := by
  obtain ⟨p, c, h1, h2⟩ := h.own
  have hA : ¬ S A := fun e => by have := hS A e; have := h.hi; omega
  refine ⟨Nat.lt_of_lt_of_le h.hi ht.size, ht.frozen h.hi h.f1 hA, p, c, ht.cell h1 hA, h2.1, ?_⟩
  rcases h2.2 with hx | ⟨g, cap, cur, hv, hb, hg, rest⟩
  · exact Or.inl hx
  · refine Or.inr ⟨g, cap, cur, hv, hb, ?_, rest⟩
    rw [ht.block g (Array.getElem?_eq_some_iff.1 hg).1 (fun e => by have := hS g e; have := (Array.getElem?_eq_some_iff.1 hg).1; omega)]
    exact hg

/-- append of one entry to the entries: what it gives. -/
theorem ents_append (W : World) (V k c : Nat) (p : Option Addr) (es vs : List Value) (hown : W.ownsRow (V + 1) 62 9 (.slice p k c) k es) (hV : V < W.heap.size) (hk : k ≤ 1000000) (hvs : vs.length = 9) (h1 : ∀ u ∈ vs, u.oneCell' = true) :
    ∃ (p' : Option Addr) (c' : Nat) (w1 : World), (Builtin.append_ #[68, 68] 68 #[.slice p k c, .slice (some ⟨W.heap.size, 0, none⟩) 1 1]).run Tryd.prog (W.alloc (.cells vs.toArray 62)) = .ok (.slice p' (k + 1) c') w1 ∧
      W.grownBy w1 (Value.slice p k c).ownBlock ∧ w1.ownsRow (V + 1) 62 9 (.slice p' (k + 1) c') (k + 1) (es ++ vs) := by
  obtain ⟨z, i0, hz, hzs, hi, hsz, hby⟩ : ∃ z i, i.zero = some z ∧ z.cells.size = 9 ∧ (Tryd.prog.info? 62) = some i ∧ i.size = 9 ∧ i.bytes = 80 := by
    have h : (Tryd.prog.info? 62).map (fun i => (i.zero.map (·.cells.size), i.size, i.bytes)) = some (some 9, 9, 80) := by kernel_rfl
    obtain ⟨i, hi, hq⟩ := Option.map_eq_some_iff.1 h
    simp only [Prod.mk.injEq] at hq
    obtain ⟨z, hz, hzs⟩ := Option.map_eq_some_iff.1 hq.1
    exact ⟨z, i, hz, hzs, hi, hq.2.1, hq.2.2⟩
  have hg := World.grownBy_alloc W (.cells vs.toArray 62) (Value.slice p k c).ownBlock
  obtain ⟨v', w1, hr, ho, hgr, _⟩ := run_append_own (P := Tryd.prog) (W.alloc (.cells vs.toArray 62)) (V + 1) 68 68 62 i0 z 9 80 Tryd.underlying68 hi hz hsz hby hzs (by decide)
    (.slice p k c) k es (hown.alloc _) ⟨W.heap.size, 0, none⟩ 1 1 vs (by omega)
    (fun j u hj => by
      have hadd : (⟨W.heap.size, 0, none⟩ : Addr).add j = ⟨W.heap.size, j, none⟩ := by unfold Addr.add; split <;> simp_all
      rw [hadd, cell_of_heap _ _ _ _ _ _ (heap_alloc_new W _)]; simpa using hj) h1 (by simp only [maxLen]; omega) (by omega) (by simp; omega)
  obtain ⟨p', c', rfl⟩ : ∃ p' c', v' = .slice p' (k + 1) c' := by
    rcases ho.2 with ⟨rfl, h⟩ | ⟨g, c, cur, rfl, _⟩
    · exact absurd h (by omega)
    · exact ⟨_, _, rfl⟩
  exact ⟨p', c', w1, hr, hg.trans hgr, ho⟩

/-- An entry is laid behind the others: the archive, and what stood ahead. -/
theorem PArc.appended {w w1 : World} {A V k : Nat} {p : Option Addr} {c : Nat} {u' : Value} {es es' : List Value} (h : PArc w A V k es) (h1 : w.cell? ⟨A, 1, none⟩ = some (.slice p k c)) (h2 : w.ownsRow (V + 1) 62 9 (.slice p k c) k es) (hAV : A ≤ V)
    (hg : w.grownBy w1 (Value.slice p k c).ownBlock) {p' : Option Addr} {c' : Nat} (hu : u' = .slice p' (k + 1) c') (hown : w1.ownsRow (V + 1) 62 9 u' (k + 1) es') :
    PArc (w1.setCell ⟨A, 1, none⟩ u') A V (k + 1) es' ∧ Trod (fun j => j = A ∨ V < j) w (w1.setCell ⟨A, 1, none⟩ u') := by
  subst hu
  have hu : ∀ j, (Value.slice p k c).ownBlock = some j → V < j := fun j e => by have := (h2.lt j e).1; omega
  have hne : some A ≠ (Value.slice p k c).ownBlock := fun e => by have := hu A e.symm; omega
  have hAb := hg.block A h.hi hne
  have hc1 : w1.cell? ⟨A, 1, none⟩ = some (.slice p k c) := hg.cell h1 hne
  refine ⟨⟨by simp; exact Nat.lt_of_lt_of_le h.hi hg.size, ?_, p', c', World.cell?_setCell_same _ _ _ hc1, ownsRow_setCell_below hown (by show A < V + 1; omega) _⟩, ?_⟩
  · rw [World.frozen?_setCell]; exact (World.frozen?_of_block (w := w) hAb).trans h.f1
  · have ht : Trod (fun j => j = A ∨ V < j) w w1 := ⟨hg.os, hg.tape, hg.output, hg.size, fun j hj hS => hg.block j hj (fun e => hS (Or.inr (hu j e.symm)))⟩
    exact ht.put A 1 (Or.inl (Or.inl rfl)) _

/-- An entry's cells in the archive that is read. -/
def acells (vb : Bool) (e : Ent) (off : Nat) : List Value :=
  [.string ⟨e.name.toArray⟩, .int .i64 e.kind, .int .i64 (if vb then e.time else 0), .int .i64 (if vb then e.user else 0), .int .i64 (if vb then e.group else 0), .int .u32 (if vb then e.mode else 0), .int .i64 off, .int .i64 e.data.length, .pointer none]
/-- The cells of the first k entries. -/
def recs (vb : Bool) (es : List Ent) (k : Nat) : List Value :=
  (List.range k).flatMap fun i => match es[i]? with | some e => acells vb e ((archB (es.take i)).length + 60) | none => []
theorem recs_succ (vb : Bool) (es : List Ent) (k : Nat) (h : k < es.length) : recs vb es (k + 1) = recs vb es k ++ acells vb es[k] ((archB (es.take k)).length + 60) := by
  unfold recs
  rw [List.range_succ, List.flatMap_append]
  simp [h]

/-- Between two readings of a header's fields: nothing but the fault's cell, and new blocks. -/
structure GSt (w0 : World) (E : Nat) (w : World) : Prop where
  t : Trod (fun _ => False) w0 w
  e : w.cell? ⟨E, 0, none⟩ = some .nilIface
  z : w.frozen? ⟨E, 0, none⟩ = false

theorem get_st (w0 W : World) (R T a b base bits v : Nat) (h : List UInt8) (hg : GSt w0 w0.heap.size W) (hby : BytesAt w0 R 5 h) (hl : h.length = 60) (hab : a ≤ b) (hb : b ≤ 60) (hT : w0.cell? ⟨T, 0, none⟩ = some (.slice (some ⟨R, 5, none⟩) 60 256))
    (hP : ∀ W, Hid (Calls Tryd.prog 73 #[.string ⟨(rtrim 32 (cut h a b)).toArray⟩, .int .i64 base, .int .i64 bits] W fun e w' => e = .returned (.tuple #[.int .i64 v, .nilIface]) ∧ Below W.heap.size W w')) :
    Hid (Calls Tryd.prog 72 #[.int .i64 a, .int .i64 b, .int .i64 base, .int .i64 bits, .pointer (some ⟨w0.heap.size, 0, none⟩), .pointer (some ⟨T, 0, none⟩)] W
      fun x w' => x = .returned (.int .i64 v) ∧ GSt w0 w0.heap.size w') := by
  refine (get_ok R w0.heap.size T a b base bits v h W (hg.t.bytes hby id) hl hab hb hg.e hg.z (hg.t.cell hT id) hP).mono ?_
  rintro x w' ⟨rfl, h1, hz, h2⟩
  exact ⟨rfl, hg.t.trans' h2 (fun k e => Or.inr (by omega)), h1, hz⟩

theorem GSt.start (w0 : World) (t : TypeId) : GSt w0 w0.heap.size (w0.alloc (.cells #[.nilIface] t)) :=
  ⟨Trod.of_below ((Below.refl _ _).alloc (Nat.le_refl _) _), by rw [cell_of_heap _ _ _ _ _ _ (heap_alloc_new w0 _)]; rfl, frozen_of_heap _ _ _ _ _ (heap_alloc_new w0 _)⟩

/-- The header's bytes where the object reader keeps them. -/
theorem rrow_bytes {w : World} {R A V : Nat} {err : Value} {off lim : Nat} {xs : List UInt8} {rest : List Value} {t : TypeId} {fz : Nat × Nat} (h : w.heap[R]? = some (.cells (rrow A V err off lim (bcells xs ++ rest)).toArray t fz)) : BytesAt w R 5 xs := by
  intro i hi
  rw [cell_of_heap _ _ _ _ _ _ h]
  unfold rrow
  rw [List.getElem?_toArray, List.getElem?_append_right (by simp), List.getElem?_append_left (by rw [bcells_length]; simpa using hi)]
  simp [bcells, hi]

/-- What is written above the last block leaves the reader as it is. -/
theorem OAt.above {w w' : World} {R A V U B F D cap : Nat} {data : List UInt8} {pos : Nat} {err : Value} {tmp : List Value} (h : OAt w R A V U B F D cap data pos err tmp) {S : Nat → Prop} (ht : Trod S w w') (hS : ∀ k, S k → V < k) : OAt w' R A V U B F D cap data pos err tmp := by
  obtain ⟨r, e, hb⟩ := h.b
  have hfr := h.fr
  have hra := h.ra
  have hau := h.au
  have hbv := h.bv
  have hub := hb.ub
  have hdf := hb.f.df
  have hn : ∀ k, k ≤ V → ¬ S k := fun k hk e => by have := hS k e; omega
  exact ⟨(ht.block R (Array.getElem?_eq_some_iff.1 h.row).1 (hn _ (by omega))).trans h.row, h.tl, ht.cell h.v0 (hn _ (Nat.le_refl _)), ht.cell h.v1 (hn _ (Nat.le_refl _)), ⟨r, e, hb.trod ht (hn _ (by omega)) (hn _ (by omega)) (hn _ (by omega)) (hn _ (by omega))⟩, hfr, hra, hau, hbv⟩
theorem OAt.lt {w : World} {R A V U B F D cap : Nat} {data : List UInt8} {pos : Nat} {err : Value} {tmp : List Value} (h : OAt w R A V U B F D cap data pos err tmp) : V < w.heap.size := World.block_lt_of_cell? w _ h.v0

theorem and1' (m : Nat) (hm : m < 9223372036854775808) : bits BinOp.and IntKind.i64 (m : Int) 1 = ((m % 2 : Nat) : Int) := by
  have e : (BitVec.ofInt 64 (m : Int)).toNat = m := by
    rw [BitVec.ofInt_natCast, BitVec.toNat_ofNat]; exact Nat.mod_eq_of_lt (by omega)
  have h1 : (BitVec.ofInt 64 (1 : Int)).toNat = 1 := by decide
  show IntKind.i64.wrap ((BitVec.ofInt 64 (m : Int) &&& BitVec.ofInt 64 (1 : Int)).toNat : Int) = _
  rw [BitVec.toNat_and, e, h1, show (1 : Nat) = 2 ^ 1 - 1 from rfl, Nat.and_two_pow_sub_one_eq_mod]
  have : m % 2 ^ 1 < 2 := Nat.mod_lt _ (by decide)
  rw [IntKind.wrap_i64]
  omega


/-- An entry laid behind the others: all that a round wants of it. -/
theorem append_round {W : World} {R A V U B F D cap k pos c : Nat} {p : Option Addr} {data : List UInt8} {tmp es : List Value} (ho : OAt W R A V U B F D cap data pos .nilIface tmp) (hp : PArc W A V k es) (h1 : W.cell? ⟨A, 1, none⟩ = some (.slice p k c)) (h2 : W.ownsRow (V + 1) 62 9 (.slice p k c) k es)
    (hk : k ≤ 1000000) (vs : List Value) (hvs : vs.length = 9) (hone : ∀ u ∈ vs, u.oneCell' = true) :
    ∃ (p' : Option Addr) (c' : Nat) (w1 : World), (Builtin.append_ #[68, 68] 68 #[.slice p k c, .slice (some ⟨W.heap.size, 0, none⟩) 1 1]).run Tryd.prog ((W.alloc (.cells vs.toArray 62)).drew) = .ok (.slice p' (k + 1) c') w1 ∧
      w1.cell? ⟨A, 1, none⟩ = some (.slice p k c) ∧ w1.frozen? ⟨A, 1, none⟩ = false ∧ w1.cell? ⟨R, 0, none⟩ = some (.pointer (some ⟨A, 0, none⟩)) ∧ w1.cell? ⟨R, 3, none⟩ = some (.int .i64 pos) ∧
      PArc (w1.setCell ⟨A, 1, none⟩ (.slice p' (k + 1) c')) A V (k + 1) (es ++ vs) ∧ OAt (w1.setCell ⟨A, 1, none⟩ (.slice p' (k + 1) c')) R A V U B F D cap data pos .nilIface tmp ∧ Trod (fun j => j = A ∨ V < j) W (w1.setCell ⟨A, 1, none⟩ (.slice p' (k + 1) c')) := by
  obtain ⟨r, e, hb⟩ := ho.b
  have hfr := ho.fr
  have hra := ho.ra
  have hau := ho.au
  have hbv := ho.bv
  have hub := hb.ub
  have hdf := hb.f.df
  have hV := ho.lt
  obtain ⟨p', c', w1, hr, hg, ho'⟩ := ents_append W.drew V k c p es vs h2 hV hk hvs hone
  have hg' : W.grownBy w1 (Value.slice p k c).ownBlock := ⟨hg.os, hg.tape, hg.output, hg.size, hg.block⟩
  have hu : ∀ j, (Value.slice p k c).ownBlock = some j → V < j := fun j e => by have := (h2.lt j e).1; omega
  have hne : ∀ j, j ≤ V → some j ≠ (Value.slice p k c).ownBlock := fun j hj e => by have := hu j e.symm; omega
  obtain ⟨d0, d1, d2, d3, d4⟩ := rrow_cell ho.row
  obtain ⟨q1, q2⟩ := hp.appended h1 h2 (by omega) hg' rfl ho'
  have hAb := hg'.block A hp.hi (hne A (by omega))
  have t1 : Trod (fun j => j = A ∨ V < j) W w1 := ⟨hg'.os, hg'.tape, hg'.output, hg'.size, fun j hj hS => hg'.block j hj (fun e => hS (Or.inr (hu j e.symm)))⟩
  have tV : Trod (fun j => V < j) W w1 := ⟨hg'.os, hg'.tape, hg'.output, hg'.size, fun j hj hS => hg'.block j hj (fun e => hS (hu j e.symm))⟩
  have ow := ho.above tV (fun j e => e)
  have tA : Trod (fun j => j = A) w1 (w1.setCell ⟨A, 1, none⟩ (.slice p' (k + 1) c')) := (Trod.refl (S := fun j => j = A) w1).put A 1 (Or.inl rfl) _
  obtain ⟨r', e', hb'⟩ := ow.b
  refine ⟨p', c', w1, hr, hg'.cell h1 (hne A (by omega)), (World.frozen?_of_block (w := W) hAb).trans hp.f1, hg'.cell d0 (hne R (by omega)), hg'.cell d3 (hne R (by omega)), q1, ?_, q2⟩
  exact ⟨(tA.block R (Array.getElem?_eq_some_iff.1 ow.row).1 (by omega)).trans ow.row, ow.tl, tA.cell ow.v0 (by show ¬ V = A; omega), tA.cell ow.v1 (by show ¬ V = A; omega), ⟨r', e', hb'.trod tA (by omega) (by omega) (by omega) (by omega)⟩, hfr, hra, hau, hbv⟩
end Go.Proofs.YtgdghaijjhbegaaDoor

/- Plain laws: what stands where an entry begins. -/
namespace Go.Proofs.YtgdghaijjhbegaaDoor
open Go.RowKit
set_option maxRecDepth 100000

/-- Where entry k begins. -/
def posAt (es : List Ent) (k : Nat) : Nat := (archB (es.take k)).length

theorem posAt_zero (es : List Ent) : posAt es 0 = 8 := rfl

theorem drop_at (p x : List UInt8) : (p ++ x).drop p.length = x := by rw [List.drop_append_of_le_length (Nat.le_refl _), List.drop_length, List.nil_append]

section
variable {es : List Ent} {tail : List UInt8} (hok : es.all Ent.okB = true) {k : Nat} (hk : k < es.length)
include hk
theorem archB_split : archB es ++ tail = archB (es.take k) ++ (es[k].header ++ (es[k].data ++ (padB es[k].data ++ (entsB (es.drop (k + 1)) ++ tail)))) := by
  have h : es = es.take k ++ (es[k] :: es.drop (k + 1)) := by rw [← List.drop_eq_getElem_cons hk, List.take_append_drop]
  have h2 : entsB es = entsB (es.take k) ++ (es[k].bytes ++ entsB (es.drop (k + 1))) := by
    conv => lhs; rw [h]
    unfold entsB
    rw [List.map_append, List.flatten_append, List.map_cons, List.flatten_cons]
  unfold archB
  rw [h2]
  simp [Ent.bytes]
include hok
theorem ok_at : es[k].okB = true := List.all_eq_true.1 hok _ (List.getElem_mem hk)
theorem posAt_succ : posAt es (k + 1) = posAt es k + 60 + es[k].data.length + es[k].data.length % 2 := by
  unfold posAt
  have ht : archB (es.take (k + 1)) = archB (es.take k) ++ es[k].bytes := by
    rw [List.take_succ_eq_append_getElem hk]; simp only [archB, entsB_snoc, List.append_assoc]
  rw [ht, List.length_append, Ent.bytes_length (ok_at hok hk)]; omega
theorem posAt_le : posAt es k + 60 + es[k].data.length + es[k].data.length % 2 ≤ (archB es ++ tail).length := by
  rw [archB_split (tail := tail) hk]
  simp only [List.length_append, Ent.header_length (ok_at hok hk), padB_length, posAt]
  omega
theorem header_at : ((archB es ++ tail).drop (posAt es k)).take 60 = es[k].header := by
  rw [archB_split (tail := tail) hk]
  unfold posAt
  rw [drop_at, List.take_left' (Ent.header_length (ok_at hok hk))]
theorem data_at : ((archB es ++ tail).drop (posAt es k + 60)).take es[k].data.length = es[k].data := by
  rw [archB_split (tail := tail) hk]
  unfold posAt
  rw [← List.drop_drop, drop_at, List.drop_left' (Ent.header_length (ok_at hok hk)), List.take_left]
theorem eight_at (h8 : 8 ≤ es[k].data.length) : ((archB es ++ tail).drop (posAt es k + 60)).take 8 = es[k].data.take 8 := by
  have h := data_at (tail := tail) hok hk
  rw [← h, List.take_take, Nat.min_eq_left h8]
end

theorem posAt_end (es : List Ent) : posAt es es.length = (archB es).length := by unfold posAt; rw [List.take_length]
theorem tail_at (es : List Ent) (tail : List UInt8) : (archB es ++ tail).drop (posAt es es.length) = tail := by rw [posAt_end, drop_at]

/-- What the fields of an entry's header read as. -/
theorem fields_at {e : Ent} (h : e.okB = true) :
    rtrim 32 (cut e.header 0 16) = e.name ∧ rtrim 32 (cut e.header 48 58) = digits 10 e.data.length ∧ rtrim 32 (cut e.header 16 28) = digits 10 e.time.toNat ∧ rtrim 32 (cut e.header 28 34) = digits 10 e.user.toNat ∧
      rtrim 32 (cut e.header 34 40) = digits 10 e.group.toNat ∧ rtrim 32 (cut e.header 40 48) = digits 8 e.mode.toNat ∧ cut e.header 58 60 = [96, 10] := by
  obtain ⟨h0, h1, h2, h3, h4, h5⟩ := okB_bounds h
  have hn : nameOk e.name = true := by
    unfold Ent.okB entryOkB headOkB at h
    simp only [Bool.and_eq_true] at h
    exact h.1.1
  have a1 : e.time.toNat ≤ 999999999999 := by omega
  have a2 : e.user.toNat ≤ 999999 := by omega
  have a3 : e.group.toNat ≤ 999999 := by omega
  have a4 : e.mode.toNat ≤ 16777215 := by omega
  have a5 : e.data.length ≤ 9999999999 := by omega
  unfold Ent.header
  rw [headerN_name h0 a1 a2 a3 a4 a5, headerN_size h0 a1 a2 a3 a4 a5, headerN_time h0 a1 a2 a3 a4 a5, headerN_user h0 a1 a2 a3 a4 a5, headerN_group h0 a1 a2 a3 a4 a5, headerN_mode h0 a1 a2 a3 a4 a5, headerN_end h0 a1 a2 a3 a4 a5]
  exact ⟨rtrim_padTo _ hn, rtrim_digits 10 _ _ (by omega) (by omega), rtrim_digits 10 _ _ (by omega) (by omega), rtrim_digits 10 _ _ (by omega) (by omega), rtrim_digits 10 _ _ (by omega) (by omega), rtrim_digits 8 _ _ (by omega) (by omega), rfl⟩

/-- The kinds of an entry. -/
theorem kinds_at {e : Ent} (h : e.okB = true) :
    (e.name = pkgdefN ∧ e.kind = 0) ∨ (e.name ≠ pkgdefN ∧ sentinelB e.name = true ∧ e.data = [] ∧ e.kind = 3) ∨ (e.name ≠ pkgdefN ∧ (sentinelB e.name = true → e.data ≠ []) ∧ 8 ≤ e.data.length ∧ (e.data.take 8 == goObjM) = false ∧ e.kind = 2) := by
  unfold Ent.okB entryOkB kindOkB at h
  simp only [Bool.and_eq_true] at h
  have h := h.2
  by_cases h1 : e.name = pkgdefN
  · rw [if_pos (by simpa using h1)] at h
    exact Or.inl ⟨h1, by simpa using h⟩
  · rw [if_neg (by simpa using h1)] at h
    by_cases h2 : sentinelB e.name = true ∧ e.data = []
    · rw [if_pos (by simp [h2])] at h
      exact Or.inr (Or.inl ⟨h1, h2.1, h2.2, by simpa using h⟩)
    · rw [if_neg (by intro hc; exact h2 ⟨hc.1, by simpa using hc.2⟩)] at h
      simp only [Bool.and_eq_true, decide_eq_true_eq, goObjB, Bool.not_eq_true', beq_iff_eq] at h
      obtain ⟨h3, h4, h5⟩ := h
      have h8 : 8 ≤ e.data.length := by omega
      refine Or.inr (Or.inr ⟨h1, fun hs hd => h2 ⟨hs, hd⟩, h8, ?_, h3⟩)
      simpa [h8, goObjM] using h5
end Go.Proofs.YtgdghaijjhbegaaDoor
