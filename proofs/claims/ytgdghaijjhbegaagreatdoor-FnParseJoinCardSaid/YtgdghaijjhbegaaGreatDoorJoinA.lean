/- Lists of entries that a call owns: a place changed; one list appended to another. -/
import Derived.Test.YtgdghaijjhbegaaGreatDoorSpecE
import Derived.Laws.OwnMore
namespace Go.Proofs.YtgdghaijjhbegaaGreatDoor
open Go.RowKit
set_option maxRecDepth 100000

/-- An entry with another place. -/
def Ent.at (e : Ent) (z : Int) : Ent := ⟨e.name, e.kind, e.time, e.user, e.group, e.mode, e.data, z⟩

theorem ecells_set (es : List Ent) (k : Nat) (hk : k < es.length) (z : Int) : (ecells es).set (k * 8 + 7) (.int .i64 z) = ecells (es.set k (es[k].at z)) := by
  apply List.ext_getElem?
  intro n
  by_cases hn : n < es.length * 8
  · have e : n = n / 8 * 8 + n % 8 := by omega
    have hi : n / 8 < es.length := by omega
    have hj : n % 8 < 8 := by omega
    generalize n / 8 = i at *
    generalize n % 8 = j at *
    subst e
    rw [ecells_get _ i j (by rw [List.length_set]; exact hi) hj]
    by_cases hik : k = i
    · subst hik
      rw [List.getElem_set_self]
      by_cases hj7 : j = 7
      · subst hj7
        rw [List.getElem?_set_self (by rw [ecells_length]; omega)]
        rfl
      · rw [List.getElem?_set_ne (by omega), ecells_get _ k j hi hj]
        match j, hj, hj7 with
        | 0, _, _ => rfl
        | 1, _, _ => rfl
        | 2, _, _ => rfl
        | 3, _, _ => rfl
        | 4, _, _ => rfl
        | 5, _, _ => rfl
        | 6, _, _ => rfl
        | 7, _, h => exact absurd rfl h
        | j + 8, h, _ => omega
    · rw [List.getElem_set_ne hik, List.getElem?_set_ne (by omega), ecells_get _ i j hi hj]
  · rw [List.getElem?_eq_none (by rw [List.length_set, ecells_length]; omega), List.getElem?_eq_none (by rw [ecells_length, List.length_set]; omega)]

theorem OwnEnts.placed {w : World} {B g c k n : Nat} {es : List Ent} (hn : es.length = n) (h : OwnEnts w B (.slice (some ⟨g, 0, none⟩) n c) es) (hk : k < es.length) (z : Int) :
    OwnEnts (w.setCell ⟨g, k * 8 + 7, none⟩ (.int .i64 z)) B (.slice (some ⟨g, 0, none⟩) n c) (es.set k (es[k].at z)) := by
  subst hn
  have hs := (World.ownsRow.stored h (k * 8 + 7) (.int .i64 z)).1
  unfold OwnEnts
  rw [List.length_set, ← ecells_set es k hk z]
  exact hs

theorem OwnEnts.cell {w : World} {B g c k j n : Nat} {es : List Ent} (hn : es.length = n) (h : OwnEnts w B (.slice (some ⟨g, 0, none⟩) n c) es) (hk : k < es.length) (hj : j < 8) : w.cell? ⟨g, k * 8 + j, none⟩ = es[k].cells[j]? := by
  subst hn
  have := World.ownsRow.cellAt h (k * 8 + j) (by omega)
  rw [this, ecells_get es k j hk hj]

theorem OwnEnts.frozen {w : World} {B g c n : Nat} {es : List Ent} (hn : es.length = n) (h : OwnEnts w B (.slice (some ⟨g, 0, none⟩) n c) es) (j : Nat) : w.frozen? ⟨g, j, none⟩ = false := by
  subst hn
  exact World.ownsRow.frozenAt h j

theorem OwnEnts.ptr {w : World} {B c n : Nat} {p : Option Addr} {es : List Ent} (h : OwnEnts w B (.slice p n c) es) (hn : 0 < es.length) : ∃ g, p = some ⟨g, 0, none⟩ ∧ B ≤ g ∧ g < w.heap.size := by
  rcases h.2 with ⟨_, h0⟩ | ⟨g, cap, cur, hv, hb, hg, _⟩
  · omega
  · injection hv with hv _ _
    exact ⟨g, hv, hb, (Array.getElem?_eq_some_iff.1 hg).1⟩

theorem OwnEnts.drew {w : World} {B : Nat} {v : Value} {es : List Ent} (h : OwnEnts w B v es) : OwnEnts w.drew B v es := h

/-- append of a list that is owned too. -/
theorem ents_join (W : World) (B B' : Nat) (v u : Value) (es fs : List Ent) (hown : OwnEnts W B v es) (hB : B ≤ W.heap.size) (hu : OwnEnts W B' u fs) (hk : es.length + fs.length ≤ 1000000) :
    ∃ (v' : Value) (w1 : World), (Builtin.append_ #[22, 22] 22 #[v, u]).run Tryz.prog W = .ok v' w1 ∧ W.grownBy w1 v.ownBlock ∧ OwnEnts w1 B v' (es ++ fs) := by
  obtain ⟨z, i0, hz, hzs, hi, hsz, hby⟩ : ∃ z i, i.zero = some z ∧ z.cells.size = 8 ∧ (Tryz.prog.info? 31) = some i ∧ i.size = 8 ∧ i.bytes = 80 := by
    have h : (Tryz.prog.info? 31).map (fun i => (i.zero.map (·.cells.size), i.size, i.bytes)) = some (some 8, 8, 80) := by kernel_rfl
    obtain ⟨i, hi, hq⟩ := Option.map_eq_some_iff.1 h
    simp only [Prod.mk.injEq] at hq
    obtain ⟨z, hz, hzs⟩ := Option.map_eq_some_iff.1 hq.1
    exact ⟨z, i, hz, hzs, hi, hq.2.1, hq.2.2⟩
  rcases hu.2 with ⟨rfl, h0⟩ | ⟨g, cap, cur, rfl, hb, hg, hn, hc, hs, _⟩
  · have : fs = [] := List.eq_nil_of_length_eq_zero h0
    subst this
    refine ⟨v, W, run_append_owned_none W B 22 22 31 i0 8 Tryz.underlying22 hi v es.length (ecells es) hown, ⟨rfl, rfl, rfl, Nat.le_refl _, fun _ _ _ => rfl⟩, ?_⟩
    rw [List.append_nil]; exact hown
  · obtain ⟨v', w1, hr, ho, hgr, _⟩ := run_append_own (P := Tryz.prog) W B 22 22 31 i0 z 8 80 Tryz.underlying22 hi hz hsz hby hzs (by decide)
      v es.length (ecells es) hown ⟨g, 0, none⟩ fs.length cap (ecells fs) (ecells_length fs) (World.ownsRow.cells hu rfl)
      (fun x hx => by
        obtain ⟨e, _, he⟩ := List.mem_flatMap.1 hx
        exact e.cells_one x he) (by simp only [maxLen]; omega) (by omega) hB
    exact ⟨v', w1, hr, hgr, by unfold OwnEnts; rw [List.length_append, ecells_append]; exact ho⟩

/-- The places of the first k entries changed by f. -/
def placedTo (d : Int) (es : List Ent) (k : Nat) : List Ent := (es.take k).map (fun e => e.at (e.off + d)) ++ es.drop k
theorem placedTo_zero (d : Int) (es : List Ent) : placedTo d es 0 = es := by simp [placedTo]
theorem placedTo_all (d : Int) (es : List Ent) : placedTo d es es.length = es.map (fun e => e.at (e.off + d)) := by simp [placedTo]
theorem placedTo_length (d : Int) (es : List Ent) (k : Nat) : (placedTo d es k).length = es.length := by simp [placedTo]; omega
theorem placedTo_get (d : Int) (es : List Ent) (k : Nat) (hk : k < es.length) : (placedTo d es k)[k]'(by rw [placedTo_length]; exact hk) = es[k] := by
  unfold placedTo
  rw [List.getElem_append_right (by simp; omega)]
  simp [Nat.min_eq_left (Nat.le_of_lt hk)]
theorem placedTo_succ (d : Int) (es : List Ent) (k : Nat) (hk : k < es.length) : placedTo d es (k + 1) = (placedTo d es k).set k (es[k].at (es[k].off + d)) := by
  unfold placedTo
  have hl : ((es.take k).map (fun e => e.at (e.off + d))).length = k := by simp; omega
  rw [List.set_append_right _ _ (by omega), hl, Nat.sub_self, List.take_succ_eq_append_getElem hk, List.map_append, List.append_assoc, List.drop_eq_getElem_cons hk, List.set_cons_zero]
  rfl
end Go.Proofs.YtgdghaijjhbegaaGreatDoor
