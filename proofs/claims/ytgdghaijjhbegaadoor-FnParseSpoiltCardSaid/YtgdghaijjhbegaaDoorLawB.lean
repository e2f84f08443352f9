/- What the laws on spoilt archives find. -/
import Derived.Test.YtgdghaijjhbegaaDoorLawA
import Derived.Test.YtgdghaijjhbegaaDoorImpB
import Derived.Test.YtgdghaijjhbegaaDoorTails
namespace Go.Proofs.YtgdghaijjhbegaaDoor
open Go.RowKit
set_option maxRecDepth 100000

section
variable {p : Option Addr} {b o cap : Nat} {es : List Ent} {w : World} (h : Asked p b o cap es w)
include h
/-- The first k entries as an archive. -/
theorem Asked.archiveTo (hok : entriesOkB es = true) (k : Nat) (hk : k ≤ es.length) (W : World) (hb : Below w.heap.size w W) : Hid (Calls Tryd.prog 19 #[.slice p k cap] W fun e w' => e = .returned (.string ⟨(archB (es.take k)).toArray⟩) ∧ Below W.heap.size W w') := by
  have hl : (es.take k).length = k := by rw [List.length_take]; omega
  have hok' : entriesOkB (es.take k) = true := by
    unfold entriesOkB
    have := (entriesOk_of hok).2
    rw [all_take (entriesOk_of hok).1 k, hl]
    simp; omega
  have hw := h.hw.below hb h.hB
  have := Archive_any p b o cap (es.take k) W (fun e => h.hp (by rintro rfl; simp at e)) (fun i hi j v hj => hw i (by rw [hl] at hi; omega) j v (by rw [List.getElem_take] at hj; exact hj)) hok' (by have := h.hcap; omega) (Nat.lt_of_lt_of_le h.hB hb.size)
  rw [hl] at this
  exact this

/-- Good entries with a bad end behind them are not read. -/
theorem Asked.bad (hok : entriesOkB es = true) (k : Nat) (data : List UInt8) (hd : ∃ tail, data = archB (es.take k) ++ tail ∧ tailBad tail) (hl : data.length ≤ (archB es).length) (W : World) (hb : Below w.heap.size w W) :
    Hid (Calls Tryd.prog 26 #[.string ⟨data.toArray⟩, .bool true] W fun x w' => x = .returned (.tuple #[.slice none 0 0, .bool false]) ∧ Below W.heap.size W w') := by
  obtain ⟨tail, h1, h2⟩ := hd
  have := archB_len hok
  have := (entriesOk_of hok).2
  exact iParse_bad true (es.take k) data tail W (all_take (entriesOk_of hok).1 k) h1 (by rw [List.length_take]; omega) h2 (by omega) (PLaid.mono (h.hL.below hb) hb.size)
end

/-- A byte stored into bytes in memory. -/
theorem BytesAt.stored {W : World} {g : Nat} {xs : List UInt8} (h : BytesAt W g 0 xs) {i : Nat} (hi : i < xs.length) (c : UInt8) : BytesAt (W.setCell ⟨g, i, none⟩ (.int .u8 (c.toNat : Int))) g 0 (xs.set i c) := by
  intro j hj
  rw [List.length_set] at hj
  have h' := fun j hj => h j hj
  simp only [Nat.zero_add] at h' ⊢
  by_cases hij : i = j
  · subst hij
    rw [List.getElem_set_self]
    exact World.cell?_setCell_same _ _ _ (h' i hi)
  · rw [List.getElem_set_ne hij, World.cell?_setCell_other _ _ _ _ (by intro e; injection e with _ e; exact hij e)]
    exact h' j hj

theorem xor_u8 (x c : UInt8) : bits BinOp.xor IntKind.u8 (x.toNat : Int) (c.toNat : Int) = ((x ^^^ c).toNat : Int) := by
  have e : ∀ y : UInt8, (BitVec.ofInt 8 (y.toNat : Int)).toNat = y.toNat := fun y => by
    rw [BitVec.ofInt_natCast, BitVec.toNat_ofNat]; exact Nat.mod_eq_of_lt y.toNat_lt
  show IntKind.u8.wrap ((BitVec.ofInt 8 (x.toNat : Int) ^^^ BitVec.ofInt 8 (c.toNat : Int)).toNat : Int) = _
  rw [BitVec.toNat_xor, e, e, ← UInt8.toNat_xor]
  have := (x ^^^ c).toNat_lt
  rw [IntKind.wrap_u8]
  omega

theorem xor_ne {x c : UInt8} (h : c ≠ 0) : x ^^^ c ≠ x := by
  intro e
  apply h
  have : x ^^^ (x ^^^ c) = x ^^^ x := by rw [e]
  rw [← UInt8.xor_assoc, UInt8.xor_self, UInt8.zero_xor] at this
  exact this

theorem extract_take (xs : List UInt8) (n : Nat) : (ByteArray.mk xs.toArray).extract 0 n = ⟨(xs.take n).toArray⟩ := by
  rw [ByteArray.extract_mk]
  simp

/-- A text as bytes that may be written: what the conversion gives. -/
theorem bytes_made (w : World) (xs : List UInt8) : ∃ c W1, (convert 9 41 (.string ⟨xs.toArray⟩)).run Tryd.prog w = .ok (.slice (some ⟨w.heap.size, 0, none⟩) xs.length c) W1 ∧ BytesAt W1 w.heap.size 0 xs ∧ Below w.heap.size w W1 ∧
    (∀ i, i < xs.length → W1.frozen? ⟨w.heap.size, i, none⟩ = false) ∧ w.heap.size < W1.heap.size ∧ xs.length ≤ c := by
  have hcv := Lib.run_convert_string_bytes (P := Tryd.prog) w 9 41 5 ⟨xs.toArray⟩ Tryd.underlying9 Tryd.underlying41 Tryd.underlying5
  have hb := below_bytesWorld w 5 ⟨xs.toArray⟩
  have hB := bytesAt_bytesWorld w 5 xs
  have hsz : (ByteArray.mk xs.toArray).size = xs.length := by simp [ByteArray.size]
  have hnew := Lib.bytesWorld_at_new w 5 ⟨xs.toArray⟩
  have hs := Lib.bytesWorld_size w 5 ⟨xs.toArray⟩
  have hcs : xs.length ≤ (Lib.bytesCells w 5 ⟨xs.toArray⟩).size := by simp [Lib.bytesCells]
  rw [hsz] at hcv
  refine ⟨_, _, hcv, hB, hb, fun i hi => ?_, by omega, grownCap_ge w xs.length 0 5⟩
  simp only [World.frozen?, hnew]
  simp; omega
/-- A byte that came in. -/
theorem u8_of {n : Int} (h : (Lit.int .u8 n).wf = true) : ∃ c : UInt8, n = (c.toNat : Int) := by
  have hx : 0 ≤ n ∧ n ≤ 255 := by simpa [Lit.wf, IntKind.min, IntKind.max, IntKind.signed, IntKind.bits] using h
  exact ⟨UInt8.ofNat n.toNat, by simp; omega⟩

/-- The text of bytes one of which was stored. -/
theorem stored_str (W : World) (g c i : Nat) (acc : List UInt8) (d : UInt8) (h : BytesAt W g 0 acc) (hi : i < acc.length) :
    (convert 41 9 (.slice (some ⟨g, 0, none⟩) acc.length c)).run Tryd.prog (W.setCell ⟨g, i, none⟩ (.int .u8 (d.toNat : Int))) = .ok (.string ⟨(acc.set i d).toArray⟩) (W.setCell ⟨g, i, none⟩ (.int .u8 (d.toNat : Int))) := by
  have := run_bytes_str g 0 c (acc.set i d) _ (h.stored hi d)
  rw [List.length_set] at this
  exact this
theorem below_set {g i : Nat} {w W : World} (h : Below w.heap.size w W) (hg : w.heap.size ≤ g) (v : Value) : Below w.heap.size w (W.setCell ⟨g, i, none⟩ v) :=
  h.trans ((Trod.refl (S := fun k => k = g) W).set (Or.inl rfl) v |>.below h.size (fun k hk e => by omega))
end Go.Proofs.YtgdghaijjhbegaaDoor
