/- An argument that is a slice of entries, opened to the entries in memory. -/
import Derived.Test.YtgdghaijjhbegaaDoorSpecB
import Derived.Test.YtgdghaijjhbegaaDoorFrame
import Derived.Deep.Slices
import Derived.Deep.Fields
import Derived.ChangeSame
namespace Go.Proofs.YtgdghaijjhbegaaDoor
open Go.ChangeShapes Go.WideShapes Go.Deep Go.RowKit
set_option maxRecDepth 100000

section
variable {H : Type} {enc : TypeId × Value → H} {P : Program} {w : World} {base : Nat} {spare : Nat → Bool} {held : Bool}
theorem open_slice_fields {t e : TypeId} {fs : Array Field} {fuel : Nat} {cs : List Value} {x : DataW H × List MemPlace} (ht : P.underlying t = some (.slice e)) (he : P.underlying e = some (.struct fs))
    (hone : oneCellFields P fs = true) (hC : P.cellsOf e = fs.size) (h : DataW.trod enc P w base spare held fuel t cs = some x) :
    (cs = [.slice none 0 0] ∧ x = (.nil, [])) ∨
    ∃ (a : Addr) (len cap m : Nat) (D : Nat → DataW H) (Pl : Nat → List MemPlace), cs = [.slice (some a) len cap] ∧ base ≤ a.block ∧ len ≤ cap ∧ cap ≤ maxLen ∧ m = (if spare a.block then cap else len) ∧
      x = (.slice ((List.range len).map D) ((List.range (m - len)).map fun j => D (len + j)), MemPlace.row a (m * fs.size) ++ (List.range m).flatMap Pl) ∧
      ∀ i, i < m → ∃ (ys : List (DataW H × List MemPlace)) (n : Nat), D i = .agg (ys.map (·.1)) ∧ Pl i = ys.flatMap (·.2) ∧ ys.length = fs.size ∧
        ∀ (j : Nat) (f : Field), fs[j]? = some f → ∃ (v : Value) (y : DataW H × List MemPlace), w.cell? (a.add (i * fs.size + j)) = some v ∧ ys[j]? = some y ∧ DataW.trod enc P w base spare held n f.type [v] = some y := by
  rcases open_slice ht h with h0 | ⟨a, len, cap, m, n, D, Pl, hcs, hb, hl, hm, hmm, hx, hi⟩
  · exact .inl h0
  · refine .inr ⟨a, len, cap, m, D, Pl, hcs, hb, hl, hm, hmm, by rw [hC] at hx; exact hx, fun i him => ?_⟩
    obtain ⟨cs', hc, ht'⟩ := hi i him
    rw [hC] at hc
    obtain ⟨ys, n', hn', hy, hlen, hyl, hf⟩ := DataW.trod_struct he ht'
    obtain ⟨_, hcl, hat⟩ := World.cells?_some hc
    simp only [Prod.mk.injEq] at hy
    refine ⟨ys, n', hy.1, hy.2, hyl, fun j f hj => ?_⟩
    obtain ⟨ho, hk⟩ := hone_of hone j f hj
    have hjl : j < fs.size := (Array.getElem?_eq_some_iff.1 hj).1
    have hcell := hat j hjl
    have hv : cs'[j]? = some (cs'[j]'(by omega)) := List.getElem?_eq_getElem (by omega)
    have h1 := hf j f hj
    rw [ho, hk] at h1
    have hone' : (cs'.drop j).take 1 = [cs'[j]'(by omega)] := by
      rw [List.drop_eq_getElem_cons (by omega)]
      rfl
    rw [hone'] at h1
    have hys : ys[j]? = some (ys[j]'(by omega)) := List.getElem?_eq_getElem (by omega)
    refine ⟨_, _, ?_, hys, h1.trans hys⟩
    rw [← Go.Deep.add_add, hcell, hv]
end

/-- One entry out of its fields' readings. -/
theorem ent_of {H : Type} {enc : TypeId × Value → H} {w : World} {base : Nat} {spare : Nat → Bool} {held : Bool} {fs : Array Field} (hfs : Tryd.prog.underlying 33 = some (.struct fs)) (hsz : fs.size = 8) (at_ : Nat → Addr) (ys : List (DataW H × List MemPlace)) (n : Nat)
    (hf : ∀ (j : Nat) (f : Field), fs[j]? = some f → ∃ (v : Value) (y : DataW H × List MemPlace), w.cell? (at_ j) = some v ∧ ys[j]? = some y ∧ DataW.trod enc Tryd.prog w base spare held n f.type [v] = some y) :
    ∃ e : Ent, (∀ j v, e.cells[j]? = some v → w.cell? (at_ j) = some v) ∧ e.name.length ≤ 9223372036854775807 ∧ e.data.length ≤ 9223372036854775807 := by
  rw [Tryd.underlying33] at hfs
  injection hfs with hfs
  injection hfs with hfs
  subst hfs
  have str : ∀ (j : Nat) (v : Value) (y : DataW H × List MemPlace), DataW.trod enc Tryd.prog w base spare held n 9 [v] = some y → ∃ xs : List UInt8, v = .string ⟨xs.toArray⟩ ∧ xs.length ≤ 9223372036854775807 := by
    intro j v y h
    obtain ⟨⟨⟨s⟩⟩, h1, _, h3⟩ := DataW.trod_string Tryd.underlying9 h
    refine ⟨s, by simpa using h1, ?_⟩
    unfold maxLen at h3
    simpa [ByteArray.size] using h3
  have int_ : ∀ (v : Value) (y : DataW H × List MemPlace), DataW.trod enc Tryd.prog w base spare held n 3 [v] = some y → ∃ z : Int, v = .int .i64 z := by
    intro v y h
    obtain ⟨z, h1, _, _⟩ := DataW.trod_int Tryd.underlying3 h
    exact ⟨z, by simpa using h1⟩
  have i64_ : ∀ (v : Value) (y : DataW H × List MemPlace), DataW.trod enc Tryd.prog w base spare held n 2 [v] = some y → ∃ z : Int, v = .int .i64 z := by
    intro v y h
    obtain ⟨z, h1, _, _⟩ := DataW.trod_int Tryd.underlying2 h
    exact ⟨z, by simpa using h1⟩
  obtain ⟨v0, y0, c0, _, t0⟩ := hf 0 _ rfl
  obtain ⟨v1, y1, c1, _, t1⟩ := hf 1 _ rfl
  obtain ⟨v2, y2, c2, _, t2⟩ := hf 2 _ rfl
  obtain ⟨v3, y3, c3, _, t3⟩ := hf 3 _ rfl
  obtain ⟨v4, y4, c4, _, t4⟩ := hf 4 _ rfl
  obtain ⟨v5, y5, c5, _, t5⟩ := hf 5 _ rfl
  obtain ⟨v6, y6, c6, _, t6⟩ := hf 6 _ rfl
  obtain ⟨v7, y7, c7, _, t7⟩ := hf 7 _ rfl
  obtain ⟨nm, rfl, hn⟩ := str 0 _ _ t0
  obtain ⟨kd, rfl⟩ := int_ _ _ t1
  obtain ⟨tm, rfl⟩ := i64_ _ _ t2
  obtain ⟨us, rfl⟩ := int_ _ _ t3
  obtain ⟨gr, rfl⟩ := int_ _ _ t4
  obtain ⟨md, rfl⟩ := int_ _ _ t5
  obtain ⟨da, rfl, hd⟩ := str 6 _ _ t6
  obtain ⟨off, rfl⟩ := i64_ _ _ t7
  refine ⟨⟨nm, kd, tm, us, gr, md, da, off⟩, fun j v hj => ?_, hn, hd⟩
  match j, hj with
  | 0, hj => cases hj; exact c0
  | 1, hj => cases hj; exact c1
  | 2, hj => cases hj; exact c2
  | 3, hj => cases hj; exact c3
  | 4, hj => cases hj; exact c4
  | 5, hj => cases hj; exact c5
  | 6, hj => cases hj; exact c6
  | 7, hj => cases hj; exact c7
  | j + 8, hj => simp [Ent.cells] at hj

theorem open_ents {H : Type} {enc : TypeId × Value → H} {w : World} {base r0 : Nat} {r : Reach} {v : Value} {d : DataW H} {q : List MemPlace} (hw0 : 0 < w.heap.size) (hv : Value.okWide Tryd.prog w r r0 25 v)
    (h : DataW.Trod enc Tryd.prog w base (fun _ => true) true 25 v d q) :
    ∃ (p : Option Addr) (b o cap : Nat) (es : List Ent), v = .slice p es.length cap ∧ (es ≠ [] → p = some ⟨b, o, none⟩) ∧ EntsAt w b o es ∧ (∀ e ∈ es, e.name.length ≤ 9223372036854775807 ∧ e.data.length ≤ 9223372036854775807) ∧
      es.length ≤ 9223372036854775807 ∧ es.length ≤ cap ∧ b < w.heap.size := by
  obtain ⟨a, len, cap, rfl⟩ := okWide_slice Tryd.underlying25 hv
  obtain ⟨fuel, hf⟩ := h
  rcases open_slice_fields Tryd.underlying25 Tryd.underlying33 (by kernel_rfl) (by kernel_rfl) hf with ⟨hcs, _⟩ | ⟨a', len', cap', m, D, Pl, hcs, hb, hl, hm, hmm, hx, hi⟩
  · have hcs' : Value.slice a len cap = .slice none 0 0 := by simpa [Value.cells] using hcs
    injection hcs' with h1 h2 h3
    subst h1 h2 h3
    exact ⟨none, 0, 0, 0, [], rfl, fun h => absurd rfl h, fun i hi => absurd hi (Nat.not_lt_zero _), fun e he => by simp at he, by simp, Nat.le_refl _, hw0⟩
  · have hcs' : Value.slice a len cap = .slice (some a') len' cap' := by simpa [Value.cells] using hcs
    injection hcs' with h1 h2 h3
    subst h1 h2 h3
    have hlm : len ≤ m := by rw [hmm]; simp; exact hl
    have hent : ∀ i, i < len → ∃ e : Ent, (∀ j v, e.cells[j]? = some v → w.cell? (a'.add (i * 8 + j)) = some v) ∧ e.name.length ≤ 9223372036854775807 ∧ e.data.length ≤ 9223372036854775807 := by
      intro i hil
      obtain ⟨ys, n, _, _, _, hfj⟩ := hi i (by omega)
      exact ent_of Tryd.underlying33 rfl (fun j => a'.add (i * 8 + j)) ys n hfj
    let f : Nat → Ent := fun i => if h : i < len then Classical.choose (hent i h) else ⟨[], 0, 0, 0, 0, 0, [], 0⟩
    have hfi : ∀ i (h : i < len), (∀ j v, (f i).cells[j]? = some v → w.cell? (a'.add (i * 8 + j)) = some v) ∧ (f i).name.length ≤ 9223372036854775807 ∧ (f i).data.length ≤ 9223372036854775807 := by
      intro i h
      have e : f i = Classical.choose (hent i h) := dif_pos h
      rw [e]
      exact Classical.choose_spec (hent i h)
    have hlen : ((List.range len).map f).length = len := by simp
    by_cases h0 : len = 0
    · subst h0
      exact ⟨some a', 0, 0, cap, [], rfl, fun h => absurd rfl h, fun i hi => absurd hi (Nat.not_lt_zero _), fun e he => by simp at he, by simp, Nat.zero_le _, hw0⟩
    · have hc0 := (hfi 0 (by omega)).1 0 _ rfl
      have hadd0 : a'.add (0 * 8 + 0) = a' := by simp [Addr.add]
      rw [hadd0] at hc0
      have hblk := World.block_lt_of_cell? w _ hc0
      have hsp : a'.spot = none := by
        unfold World.cell? at hc0
        split at hc0
        · cases hs : a'.spot with
          | none => rfl
          | some x => simp [hs] at hc0
        · simp at hc0
      obtain ⟨b, o, sp⟩ := a'
      simp only at hsp
      subst hsp
      refine ⟨some ⟨b, o, none⟩, b, o, cap, (List.range len).map f, by rw [hlen], fun _ => rfl, fun i hi' j v hj => ?_, fun e he => ?_, by rw [hlen]; unfold maxLen at hm; omega, by rw [hlen]; exact hl, hblk⟩
      · rw [hlen] at hi'
        have hj' : (f i).cells[j]? = some v := by simpa using hj
        have h2 := (hfi i hi').1 j v hj'
        have hadd : (⟨b, o, none⟩ : Addr).add (i * 8 + j) = ⟨b, o + i * 8 + j, none⟩ := by
          unfold Addr.add; split <;> simp_all <;> omega
        rw [hadd] at h2
        exact h2
      · obtain ⟨i, hi', rfl⟩ := List.mem_map.1 he
        exact (hfi i (List.mem_range.1 hi')).2
end Go.Proofs.YtgdghaijjhbegaaDoor
