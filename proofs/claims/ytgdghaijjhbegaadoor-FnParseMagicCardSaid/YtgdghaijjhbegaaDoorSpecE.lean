/- Lists of entries that a call makes: as a row that it owns; Placed, Quiet and Same over them. -/
import Derived.Test.YtgdghaijjhbegaaDoorParA
import Derived.OwnWalk
import Derived.Maps.AppendAt
namespace Go.Proofs.YtgdghaijjhbegaaDoor
open Go.RowKit
set_option maxRecDepth 100000

/-- The cells of entries. -/
def ecells (es : List Ent) : List Value := es.flatMap Ent.cells
theorem Ent.cells_length (e : Ent) : e.cells.length = 8 := rfl
theorem ecells_length (es : List Ent) : (ecells es).length = es.length * 8 := by
  induction es with
  | nil => rfl
  | cons e es ih => simp only [ecells, List.flatMap_cons, List.length_append, Ent.cells_length, List.length_cons] at ih ⊢; omega
theorem ecells_snoc (es : List Ent) (e : Ent) : ecells (es ++ [e]) = ecells es ++ e.cells := by simp [ecells]
theorem ecells_append (es fs : List Ent) : ecells (es ++ fs) = ecells es ++ ecells fs := by simp [ecells]
theorem ecells_get : ∀ (es : List Ent) (i j : Nat) (h : i < es.length), j < 8 → (ecells es)[i * 8 + j]? = es[i].cells[j]?
  | [], i, _, h, _ => absurd h (Nat.not_lt_zero _)
  | e :: es, 0, j, _, hj => by
    simp only [ecells, List.flatMap_cons, Nat.zero_mul, Nat.zero_add, List.getElem_cons_zero]
    rw [List.getElem?_append_left (by rw [Ent.cells_length]; exact hj)]
  | e :: es, i + 1, j, h, hj => by
    simp only [ecells, List.flatMap_cons, List.getElem_cons_succ]
    rw [List.getElem?_append_right (by rw [Ent.cells_length]; omega), Ent.cells_length, show (i + 1) * 8 + j - 8 = i * 8 + j by omega]
    exact ecells_get es i j (by simpa using h) hj
theorem Ent.cells_one (e : Ent) : ∀ v ∈ e.cells, v.oneCell' = true := by
  intro v hv
  simp only [Ent.cells, List.mem_cons, List.not_mem_nil, or_false] at hv
  rcases hv with rfl | rfl | rfl | rfl | rfl | rfl | rfl | rfl <;> rfl

/-- A list of entries that the call owns. -/
def OwnEnts (w : World) (B : Nat) (v : Value) (es : List Ent) : Prop := w.ownsRow B 33 8 v es.length (ecells es)

theorem OwnEnts.alloc {w : World} {B : Nat} {v : Value} {es : List Ent} (h : OwnEnts w B v es) (o : Obj) : OwnEnts (w.alloc o) B v es := World.ownsRow.alloc h o
theorem OwnEnts.empty (w : World) : OwnEnts (w.alloc (.cells #[] 33)) w.heap.size (.slice (some ⟨w.heap.size, 0, none⟩) 0 0) [] :=
  ⟨rfl, Or.inr ⟨w.heap.size, 0, #[], rfl, Nat.le_refl _, heap_alloc_new w _, Nat.le_refl _, Nat.zero_le _, rfl, rfl⟩⟩
/-- Below: what stood before the row began. -/
theorem OwnEnts.later {w w' : World} {B : Nat} {v : Value} {es : List Ent} (h : OwnEnts w B v es) (hb : Below w.heap.size w w') : OwnEnts w' B v es :=
  World.ownsRow.kept h (row := none) ⟨hb.os, hb.tape, hb.output, hb.size, fun k hk _ => hb.block k hk⟩ (by cases v.ownBlock <;> simp)

/-- append of an entry. -/
theorem out_append (W : World) (B : Nat) (v : Value) (es : List Ent) (e : Ent) (hown : OwnEnts W B v es) (hB : B ≤ W.heap.size) (hk : es.length ≤ 1000000) :
    ∃ (v' : Value) (w1 : World), (Builtin.append_ #[25, 25] 25 #[v, .slice (some ⟨W.heap.size, 0, none⟩) 1 1]).run Tryd.prog (W.alloc (.cells e.cells.toArray 33)) = .ok v' w1 ∧
      W.grownBy w1 v.ownBlock ∧ OwnEnts w1 B v' (es ++ [e]) := by
  obtain ⟨z, i0, hz, hzs, hi, hsz, hby⟩ : ∃ z i, i.zero = some z ∧ z.cells.size = 8 ∧ (Tryd.prog.info? 33) = some i ∧ i.size = 8 ∧ i.bytes = 80 := by
    have h : (Tryd.prog.info? 33).map (fun i => (i.zero.map (·.cells.size), i.size, i.bytes)) = some (some 8, 8, 80) := by kernel_rfl
    obtain ⟨i, hi, hq⟩ := Option.map_eq_some_iff.1 h
    simp only [Prod.mk.injEq] at hq
    obtain ⟨z, hz, hzs⟩ := Option.map_eq_some_iff.1 hq.1
    exact ⟨z, i, hz, hzs, hi, hq.2.1, hq.2.2⟩
  have hg := World.grownBy_alloc W (.cells e.cells.toArray 33) v.ownBlock
  obtain ⟨v', w1, hr, ho, hgr, _⟩ := run_append_own (P := Tryd.prog) (W.alloc (.cells e.cells.toArray 33)) B 25 25 33 i0 z 8 80 Tryd.underlying25 hi hz hsz hby hzs (by decide)
    v es.length (ecells es) (World.ownsRow.alloc hown _) ⟨W.heap.size, 0, none⟩ 1 1 e.cells (by rfl)
    (fun j u hj => by
      have hadd : (⟨W.heap.size, 0, none⟩ : Addr).add j = ⟨W.heap.size, j, none⟩ := by unfold Addr.add; split <;> simp_all
      rw [hadd, cell_of_heap _ _ _ _ _ _ (heap_alloc_new W _)]; simpa using hj) e.cells_one (by simp only [maxLen]; omega) (by omega) (by simp; omega)
  exact ⟨v', w1, hr, hg.trans hgr, by unfold OwnEnts; rw [List.length_append, ecells_snoc]; exact ho⟩

theorem OwnEnts.ge {w : World} {B : Nat} {v : Value} {es : List Ent} (h : OwnEnts w B v es) : ∀ k, v.ownBlock = some k → B ≤ k := fun k e => (World.ownsRow.lt h k e).1

/-- Entries that are owned, as entries in memory. -/
theorem OwnEnts.at {w : World} {B : Nat} {v : Value} {es : List Ent} (h : OwnEnts w B v es) (hB : 0 < w.heap.size) : ∃ p b cap, v = .slice p es.length cap ∧ (es ≠ [] → p = some ⟨b, 0, none⟩) ∧ EntsAt w b 0 es ∧ (es ≠ [] → B ≤ b) ∧ b < w.heap.size ∧ es.length ≤ cap := by
  have h' := h
  rcases h.2 with ⟨rfl, hn⟩ | ⟨g, cap, cur, rfl, hb, hg, hn, hc, hs, _⟩
  · have : es = [] := List.eq_nil_of_length_eq_zero hn
    subst this
    exact ⟨none, 0, 0, rfl, fun h => absurd rfl h, fun i hi => absurd hi (Nat.not_lt_zero _), fun h => absurd rfl h, hB, Nat.le_refl _⟩
  · refine ⟨some ⟨g, 0, none⟩, g, cap, rfl, fun _ => rfl, fun i hi j v hj => ?_, fun _ => hb, (Array.getElem?_eq_some_iff.1 hg).1, hn⟩
    have hj8 : j < 8 := by
      rcases Nat.lt_or_ge j 8 with h | h
      · exact h
      · rw [List.getElem?_eq_none (by rw [Ent.cells_length]; exact h)] at hj; cases hj
    have := World.ownsRow.cells h' (g := g) rfl (i * 8 + j) v (by rw [ecells_get es i j hi hj8]; exact hj)
    have hadd : (⟨g, 0, none⟩ : Addr).add (i * 8 + j) = ⟨g, 0 + i * 8 + j, none⟩ := by unfold Addr.add; split <;> simp_all
    rw [hadd] at this
    exact this
/-- A list that is no nil. -/
theorem OwnEnts.isSome {w : World} {B : Nat} {v : Value} {es : List Ent} (h : OwnEnts w B v es) (hn : 0 < es.length) : ∃ g c, v = .slice (some ⟨g, 0, none⟩) es.length c := by
  rcases h.2 with ⟨rfl, h0⟩ | ⟨g, cap, cur, rfl, _⟩
  · omega
  · exact ⟨g, cap, rfl⟩

/-- An entry as the reader tells it. -/
def outE (vb : Bool) (off : Nat) (e : Ent) : Ent := ⟨e.name, e.kind, if vb then e.time else 0, if vb then e.user else 0, if vb then e.group else 0, if vb then e.mode else 0, e.data, off⟩
/-- The first k entries as the reader tells them. -/
def outs (vb : Bool) (es : List Ent) (k : Nat) : List Ent := (List.range k).flatMap fun i => match es[i]? with | some e => [outE vb (posAt es i + 60) e] | none => []
theorem outs_succ (vb : Bool) (es : List Ent) (k : Nat) (h : k < es.length) : outs vb es (k + 1) = outs vb es k ++ [outE vb (posAt es k + 60) es[k]] := by
  unfold outs
  rw [List.range_succ, List.flatMap_append]
  simp [h]
theorem outs_length (vb : Bool) (es : List Ent) : ∀ k, k ≤ es.length → (outs vb es k).length = k
  | 0, _ => rfl
  | k + 1, h => by rw [outs_succ vb es k (by omega), List.length_append, outs_length vb es k (by omega)]; rfl

theorem posAt_le_big {es : List Ent} (hok : es.all Ent.okB = true) : ∀ k, k ≤ es.length → posAt es k ≤ 8 + k * 1048700
  | 0, _ => by rw [posAt_zero]; omega
  | k + 1, h => by
    have := posAt_le_big hok k (by omega)
    obtain ⟨_, _, _, _, _, b⟩ := okB_bounds (ok_at hok (k := k) (by omega))
    rw [posAt_succ hok (by omega)]
    omega

end Go.Proofs.YtgdghaijjhbegaaDoor
