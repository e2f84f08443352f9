/- The walks of laws.parses and of the laws on what is read of a good archive. -/
import Derived.Test.YtgdghaijjhbegaaDoorImpA
import Derived.Test.YtgdghaijjhbegaaDoorFits
namespace Go.Proofs.YtgdghaijjhbegaaDoor
open Go.RowKit
set_option maxRecDepth 100000

theorem PLaid.pos {w : World} {B : Nat} (h : PLaid w B) : 0 < B := by
  obtain ⟨_, _, _, _, h⟩ := h.eof
  omega

theorem parses_any (w : World) (hL : PLaid w w.heap.size) : Calls Tryd.prog 25 #[] w fun e w' => e = .returned (.bool true) ∧ Below w.heap.size w w' := by
  have hP : Calls Tryd.prog 26 #[.string ⟨#[33, 60, 97, 114, 99, 104, 62, 10]⟩, .bool false] w fun x w' => ∃ v, x = .returned (.tuple #[v, .bool true]) ∧ Below w.heap.size w w' :=
    (iParse_ok false [] magicB w rfl rfl (by simp) hL).mono fun x w' ⟨v, hx, _, hb⟩ => ⟨v, hx, hb⟩
  have HP := hide hP
  clear hP
  go_enter Tryd.func25, Tryd.ntmps25
  go_wp2_with (go_at_call 26; (with_reducible refine (HP.out).mono ?_); rintro e w1 ⟨v, rfl, hb1⟩)
  go_ret
  exact ⟨rfl, hb1⟩

/-- What a law finds of its list: too long, no entries, or entries. -/
structure Asked (p : Option Addr) (b o cap : Nat) (es : List Ent) (w : World) : Prop where
  hp : es ≠ [] → p = some ⟨b, o, none⟩
  hw : EntsAt w b o es
  hs : ∀ e ∈ es, e.name.length ≤ 9223372036854775807 ∧ e.data.length ≤ 9223372036854775807
  hl : es.length ≤ 9223372036854775807
  hcap : es.length ≤ cap
  hB : b < w.heap.size
  hL : PLaid w w.heap.size

section
variable {p : Option Addr} {b o cap : Nat} {es : List Ent} {w : World} (h : Asked p b o cap es w)
include h
theorem Asked.parses (W : World) (hb : Below w.heap.size w W) : Hid (Calls Tryd.prog 25 #[] W fun e w' => e = .returned (.bool true) ∧ Below W.heap.size W w') :=
  parses_any W (PLaid.mono (h.hL.below hb) hb.size)
theorem Asked.fits (r : Bool) (hr : fitsB es = r) (W : World) (hb : Below w.heap.size w W) : Hid (Calls Tryd.prog 15 #[.slice p es.length cap] W fun e w' => e = .returned (.bool r) ∧ Below W.heap.size W w') :=
  (zzFits1_any p b o cap es W h.hp (h.hw.below hb h.hB) h.hs h.hl (Nat.lt_of_lt_of_le h.hB hb.size)).mono fun e w' h => ⟨by rw [h.1, hr], h.2⟩
theorem Asked.oks (hf : fitsB es = true) (r : Bool) (hr : entriesOkB es = r) (W : World) (hb : Below w.heap.size w W) : Hid (Calls Tryd.prog 16 #[.slice p es.length cap] W fun e w' => e = .returned (.bool r) ∧ Below W.heap.size W w') :=
  (EntriesOk_any p b o cap es W h.hp (h.hw.below hb h.hB) (fitsB_short hf).1 (by have := (fitsB_short hf).2; omega) h.hcap (Nat.lt_of_lt_of_le h.hB hb.size)).mono fun e w' h => ⟨by rw [h.1, hr], h.2⟩
theorem Asked.archive (hok : entriesOkB es = true) (W : World) (hb : Below w.heap.size w W) : Hid (Calls Tryd.prog 19 #[.slice p es.length cap] W fun e w' => e = .returned (.string ⟨(archB es).toArray⟩) ∧ Below W.heap.size W w') :=
  Archive_any p b o cap es W h.hp (h.hw.below hb h.hB) hok h.hcap (Nat.lt_of_lt_of_le h.hB hb.size)
theorem Asked.parse (hok : entriesOkB es = true) (vb : Bool) (W : World) (hb : Below w.heap.size w W) : Hid (Calls Tryd.prog 26 #[.string ⟨(archB es).toArray⟩, .bool vb] W
    fun x w' => ∃ p1 b1 c1, x = .returned (.tuple #[.slice p1 (outs vb es es.length).length c1, .bool true]) ∧ (outs vb es es.length ≠ [] → p1 = some ⟨b1, 0, none⟩) ∧ EntsAt w' b1 0 (outs vb es es.length) ∧ b1 < w'.heap.size ∧ Below W.heap.size W w') := by
  unfold entriesOkB at hok
  simp only [Bool.and_eq_true, decide_eq_true_eq] at hok
  refine (iParse_ok vb es _ W hok.1 rfl (by omega) (PLaid.mono (h.hL.below hb) hb.size)).mono ?_
  rintro x w' ⟨v, rfl, hv, hbb⟩
  obtain ⟨p1, b1, c1, rfl, h1, h2, _, h3, _⟩ := hv.at (by have := h.hL.pos; have := hb.size; have := hbb.size; omega)
  exact ⟨p1, b1, c1, rfl, h1, h2, h3, hbb⟩
end

theorem outs_le {vb : Bool} {es : List Ent} (hok : entriesOkB es = true) : (outs vb es es.length).length ≤ 1000 := by
  unfold entriesOkB at hok
  simp only [Bool.and_eq_true, decide_eq_true_eq] at hok
  rw [outs_length vb es es.length (Nat.le_refl _)]
  omega

theorem entriesOk_of {es : List Ent} (hok : entriesOkB es = true) : es.all Ent.okB = true ∧ es.length ≤ 200 := by
  unfold entriesOkB at hok
  simp only [Bool.and_eq_true, decide_eq_true_eq] at hok
  exact ⟨hok.1, by omega⟩

theorem archB_len {es : List Ent} (hok : entriesOkB es = true) : (archB es).length ≤ 1000000000 :=
  archB_len_le (entriesOk_of hok).1 (by have := (entriesOk_of hok).2; omega)

end Go.Proofs.YtgdghaijjhbegaaDoor
