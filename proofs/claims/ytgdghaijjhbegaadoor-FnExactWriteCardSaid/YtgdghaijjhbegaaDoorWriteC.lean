/- The walk of laws.FnExactWrite: it returns true. -/
import Derived.Test.YtgdghaijjhbegaaDoorWriteB
import Derived.Test.YtgdghaijjhbegaaDoorFits
namespace Go.Proofs.YtgdghaijjhbegaaDoor
open Go.RowKit
set_option maxRecDepth 100000

theorem writes_any (ea : Addr) (w : World) (hN : NumLaid w) (hE : w.cell? ⟨0, 0, none⟩ = some (.iface 133 (.pointer (some ea)))) :
    Calls Tryd.prog 17 #[] w fun e w' => e = .returned (.bool true) ∧ Below w.heap.size w w' := by
  have hG := World.block_lt_of_cell? w _ hE
  have hW : Calls Tryd.prog 18 #[.slice none 0 0] w fun e w' => e = .returned (.tuple #[.string ⟨#[33, 60, 97, 114, 99, 104, 62, 10]⟩, .bool true]) ∧ Below w.heap.size w w' :=
    Write_any none 0 0 0 [] ea w (fun h => absurd rfl h) (fun i hi => absurd hi (Nat.not_lt_zero _)) rfl (Nat.lt_of_le_of_lt (Nat.zero_le _) hG) hN hE
  have HW := hide hW
  clear hW
  go_enter Tryd.func17, Tryd.ntmps17
  go_wp2_with (go_at_call 18; (with_reducible refine (HW.out).mono ?_); rintro e w1 ⟨rfl, hb1⟩)
  go_ret
  exact ⟨rfl, hb1⟩

set_option maxHeartbeats 1000000 in
theorem FnExactWrite_any (p : Option Addr) (b o cap : Nat) (es : List Ent) (ea : Addr) (w : World) (hp : es ≠ [] → p = some ⟨b, o, none⟩) (hw : EntsAt w b o es) (hs : ∀ e ∈ es, e.name.length ≤ 9223372036854775807 ∧ e.data.length ≤ 9223372036854775807) (hl : es.length ≤ 9223372036854775807) (hcap : es.length ≤ cap) (hB : b < w.heap.size)
    (hN : NumLaid w) (hE : w.cell? ⟨0, 0, none⟩ = some (.iface 133 (.pointer (some ea)))) :
    Calls Tryd.prog 5 #[.slice p es.length cap] w fun e w' => e = .returned (.bool true) ∧ Below w.heap.size w w' := by
  have hG : 0 < w.heap.size := World.block_lt_of_cell? w _ hE
  have hE' : ∀ W, Below w.heap.size w W → W.cell? ⟨0, 0, none⟩ = some (.iface 133 (.pointer (some ea))) := fun W hb => (hb.cell (p := ⟨0, 0, none⟩) hG).trans hE
  have hWs := fun W (hb : Below w.heap.size w W) => hide (writes_any ea W (hN.below hb (Nat.le_refl _)) (hE' W hb))
  cases hf : fitsB es
  · have hF := hide ((zzFits1_any p b o cap es w hp hw hs hl hB).mono fun e w' h => (⟨by rw [h.1, hf], h.2⟩ : e = .returned (.bool false) ∧ Below w.heap.size w w'))
    clear hf
    go_enter Tryd.func5, Tryd.ntmps5
    go_wp2_with (go_at_call 15; (with_reducible refine (hF.out).mono ?_); rintro e w1 ⟨rfl, hb1⟩)
    go_ret
    exact ⟨rfl, hb1⟩
  · have hF := hide ((zzFits1_any p b o cap es w hp hw hs hl hB).mono fun e w' h => (⟨by rw [h.1, hf], h.2⟩ : e = .returned (.bool true) ∧ Below w.heap.size w w'))
    obtain ⟨hsh, hl2⟩ := fitsB_short hf
    clear hf
    cases hok : entriesOkB es
    · have hO := fun W (hb : Below w.heap.size w W) => hide ((EntriesOk_any p b o cap es W hp (hw.below hb hB) hsh (by omega) hcap (Nat.lt_of_lt_of_le hB hb.size)).mono fun e w' h => (⟨by rw [h.1, hok], h.2⟩ : e = .returned (.bool false) ∧ Below W.heap.size W w'))
      clear hok
      go_enter Tryd.func5, Tryd.ntmps5
      go_wp2_with (first
        | (go_at_call 15; (with_reducible refine (hF.out).mono ?_); rintro e w1 ⟨rfl, hb1⟩)
        | (go_at_call 16; (with_reducible refine ((hO _ hb1).out).mono ?_); rintro e w2 ⟨rfl, hb2⟩; have hb12 := hb1.trans (hb2.mono hb1.size))
        | (go_at_call 17; (with_reducible refine ((hWs _ hb12).out).mono ?_); rintro e w3 ⟨rfl, hb3⟩))
      go_ret
      exact ⟨rfl, hb12.trans (hb3.mono hb12.size)⟩
    · have hO := fun W (hb : Below w.heap.size w W) => hide ((EntriesOk_any p b o cap es W hp (hw.below hb hB) hsh (by omega) hcap (Nat.lt_of_lt_of_le hB hb.size)).mono fun e w' h => (⟨by rw [h.1, hok], h.2⟩ : e = .returned (.bool true) ∧ Below W.heap.size W w'))
      have hW := fun W (hb : Below w.heap.size w W) => hide (Write_any p b o cap es ea W hp (hw.below hb hB) hok (Nat.lt_of_lt_of_le hB hb.size) (hN.below hb (Nat.le_refl _)) (hE' W hb))
      have hA := fun W (hb : Below w.heap.size w W) => hide (Archive_any p b o cap es W hp (hw.below hb hB) hok hcap (Nat.lt_of_lt_of_le hB hb.size))
      clear hok
      generalize archB es = acc at *
      go_enter Tryd.func5, Tryd.ntmps5
      go_wp2_with (first
        | (go_at_call 15; (with_reducible refine (hF.out).mono ?_); rintro e w1 ⟨rfl, hb1⟩)
        | (go_at_call 16; (with_reducible refine ((hO _ hb1).out).mono ?_); rintro e w2 ⟨rfl, hb2⟩; have hb12 := hb1.trans (hb2.mono hb1.size))
        | (go_at_call 18; (with_reducible refine ((hW _ hb12).out).mono ?_); rintro e w3 ⟨rfl, hb3⟩; have hb13 := hb12.trans (hb3.mono hb12.size))
        | (go_at_call 19; (with_reducible refine ((hA _ hb13).out).mono ?_); rintro e w4 ⟨rfl, hb4⟩; have hb14 := hb13.trans (hb4.mono hb13.size))
        | (go_at_call 17; (with_reducible refine ((hWs _ hb14).out).mono ?_); rintro e w5 ⟨rfl, hb5⟩))
      go_ret
      exact ⟨rfl, hb14.trans (hb5.mono hb14.size)⟩
end Go.Proofs.YtgdghaijjhbegaaDoor
