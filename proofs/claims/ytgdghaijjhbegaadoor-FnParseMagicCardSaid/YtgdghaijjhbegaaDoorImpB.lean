/- The walk of impl.Parse over what is no archive, or ends badly. -/
import Derived.Test.YtgdghaijjhbegaaDoorImpA
import Derived.Test.YtgdghaijjhbegaaDoorParF
namespace Go.Proofs.YtgdghaijjhbegaaDoor
open Go.RowKit
set_option maxRecDepth 100000

set_option maxHeartbeats 4000000 in
theorem iParse_err (vb : Bool) (data : List UInt8) (w : World) (hdl : data.length ≤ 1000000000) (hd0 : 0 < data.length)
    (HPA : ∀ F D cap W, PFile W F D cap data 0 → Below w.heap.size w W → w.heap.size ≤ D → Hid (Calls Tryd.prog 39 #[.pointer (some ⟨F, 0, none⟩), .bool vb] W fun x w' => (∃ v, x = .returned (.tuple #[.pointer none, .iface 133 v])) ∧ Below D W w')) :
    Calls Tryd.prog 26 #[.string ⟨data.toArray⟩, .bool vb] w fun x w' => x = .returned (.tuple #[.slice none 0 0, .bool false]) ∧ Below w.heap.size w w' := by
  have hcv := Lib.run_convert_string_bytes (P := Tryd.prog) w 9 41 5 ⟨data.toArray⟩ Tryd.underlying9 Tryd.underlying41 Tryd.underlying5
  have hb := below_bytesWorld w 5 ⟨data.toArray⟩
  have hB := bytesAt_bytesWorld w 5 data
  have hsz : (ByteArray.mk data.toArray).size = data.length := by simp [ByteArray.size]
  rw [hsz] at hcv
  generalize Lib.bytesWorld w 5 ⟨data.toArray⟩ = W1 at *
  have HNF := hide (NewFile_bytes ⟨#[97]⟩ w.heap.size (grownCap w data.length 0 5) data W1 hB (by omega) hd0)
  clear hB hsz hd0 hdl
  go_enter Tryd.func26, Tryd.ntmps26
  go_wp2_with (first
    | (go_at_call 32; (with_reducible refine (HNF.out).mono ?_); rintro x w2 ⟨F, D, cap, rfl, hf2, hD2, hb2⟩; have hbw2 : Below w.heap.size w w2 := hb.trans (hb2.mono hb.size); have HP := HPA F D cap w2 hf2 hbw2 (by have := hb.size; omega))
    | (go_at_call 39; (with_reducible refine (HP.out).mono ?_); rintro x w3 ⟨⟨v3, rfl⟩, hb3⟩; have hbw3 : Below w.heap.size w w3 := hbw2.trans (hb3.mono (by have := hb.size; omega))))
  go_ret2
  exact ⟨rfl, hbw3⟩

theorem iParse_bad (vb : Bool) (es : List Ent) (data tail : List UInt8) (w : World) (hok : es.all Ent.okB = true) (hdata : data = archB es ++ tail) (hes : es.length ≤ 1000000) (htl : tailBad tail) (hdl : data.length ≤ 1000000000) (hL : PLaid w w.heap.size) :
    Calls Tryd.prog 26 #[.string ⟨data.toArray⟩, .bool vb] w fun x w' => x = .returned (.tuple #[.slice none 0 0, .bool false]) ∧ Below w.heap.size w w' :=
  iParse_err vb data w hdl (by rw [hdata]; simp [archB, magicB]) fun F D cap W h1 h2 h3 => Parse_bad F D cap vb es data tail W h1 hok hdata hes htl (PLaid.mono (hL.below h2) h3)

theorem iParse_none (vb : Bool) (data : List UInt8) (w : World) (hlen : 8 ≤ data.length) (h1 : data.take 8 ≠ magicB) (h2 : data.take 8 ≠ goObjM) (hdl : data.length ≤ 1000000000) (hL : PLaid w w.heap.size) :
    Calls Tryd.prog 26 #[.string ⟨data.toArray⟩, .bool vb] w fun x w' => x = .returned (.tuple #[.slice none 0 0, .bool false]) ∧ Below w.heap.size w w' :=
  iParse_err vb data w hdl (by omega) fun F D cap W hf hb hD => Parse_none F D cap vb data W hf hlen h1 h2 (PLaid.mono (hL.below hb) hD)
end Go.Proofs.YtgdghaijjhbegaaDoor
