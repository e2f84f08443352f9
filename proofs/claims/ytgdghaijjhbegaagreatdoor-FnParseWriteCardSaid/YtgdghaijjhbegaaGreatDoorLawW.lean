/- The walk of laws.FnParseWrite: it returns true. -/
import Derived.Test.YtgdghaijjhbegaaGreatDoorLawE
import Derived.Test.YtgdghaijjhbegaaGreatDoorWriteA
namespace Go.Proofs.YtgdghaijjhbegaaGreatDoor
open Go.RowKit
set_option maxRecDepth 100000

theorem Asked.write {p : Option Addr} {b o cap : Nat} {es : List Ent} {w : World} (h : Asked p b o cap es w) (hN : NumLaid w) (hok : entriesOkB es = true) (W : World) (hb : Below w.heap.size w W) :
    Hid (Calls Tryz.prog 15 #[.slice p es.length cap] W fun e w' => e = .returned (.tuple #[.string ⟨(archB es).toArray⟩, .bool true]) ∧ Below W.heap.size W w') := by
  obtain ⟨ea, hE, _⟩ := (h.hL.below hb).eof
  exact Write_any p b o cap es ea W h.hp (h.hw.below hb h.hB) hok (Nat.lt_of_lt_of_le h.hB hb.size) (hN.below hb (Nat.le_refl _)) hE

set_option maxHeartbeats 4000000 in
theorem FnParseWrite_any (p : Option Addr) (b o cap : Nat) (es : List Ent) (w : World) (h : Asked p b o cap es w) (hN : NumLaid w) :
    Calls Tryz.prog 6 #[.slice p es.length cap] w fun e w' => e = .returned (.bool true) ∧ Below w.heap.size w w' := by
  have hPs := h.parses
  have hb0 := Below.refl w.heap.size w
  cases hf : fitsB es
  · have hF := h.fits _ hf w hb0
    clear hf
    go_enter Tryz.func6, Tryz.ntmps6
    go_wp2_with (go_at_call 7; (with_reducible refine (hF.out).mono ?_); rintro e w1 ⟨rfl, hb1⟩)
    go_ret
    exact ⟨rfl, hb1⟩
  · have hF := h.fits _ hf w hb0
    cases hok : entriesOkB es
    · have hO := h.oks hf _ hok
      clear hf hok
      go_enter Tryz.func6, Tryz.ntmps6
      go_wp2_with (first
        | (go_at_call 7; (with_reducible refine (hF.out).mono ?_); rintro e w1 ⟨rfl, hb1⟩)
        | (go_at_call 8; (with_reducible refine ((hO _ hb1).out).mono ?_); rintro e w2 ⟨rfl, hb2⟩; have hb12 := hb1.trans (hb2.mono hb1.size))
        | (go_at_call 9; (with_reducible refine ((hPs _ hb12).out).mono ?_); rintro e w3 ⟨rfl, hb3⟩))
      go_ret
      exact ⟨rfl, hb12.trans (hb3.mono hb12.size)⟩
    · have hO := h.oks hf _ hok
      have hW := h.write hN hok
      have hP := h.parse hok true
      have hPl := h.placed hok
      have hle := outs_le (vb := true) hok
      have hSm := fun p1 b1 c1 p2 b2 c2 W h1 h2 h3 h4 => hide (Same_any p1 p2 b1 0 c1 b2 0 c2 (outs true es es.length) W h1 h2 h3 h4 hle)
      clear hf hok hle
      generalize outs true es es.length = os at *
      generalize archB es = acc at *
      go_enter Tryz.func6, Tryz.ntmps6
      go_wp2_with (first
        | (go_at_call 7; (with_reducible refine (hF.out).mono ?_); rintro e w1 ⟨rfl, hb1⟩)
        | (go_at_call 8; (with_reducible refine ((hO _ hb1).out).mono ?_); rintro e w2 ⟨rfl, hb2⟩; have hb12 := hb1.trans (hb2.mono hb1.size))
        | (go_at_call 15; (with_reducible refine ((hW _ hb12).out).mono ?_); rintro e w3 ⟨rfl, hb3⟩; have hb13 := hb12.trans (hb3.mono hb12.size))
        | (go_at_call 10; (with_reducible refine ((hP _ hb13).out).mono ?_); rintro e w4 ⟨p1, b1, c1, rfl, hp1, he1, hs1, hb4⟩; have hb14 := hb13.trans (hb4.mono hb13.size); have Hp1 := hide hp1; have He1 := hide he1; clear hp1 he1)
        | (go_at_call 13; (with_reducible refine ((hPl _ hb14).out).mono ?_); rintro e w5 ⟨p2, b2, c2, rfl, hp2, he2, hs2, hb5⟩; have hb15 := hb14.trans (hb5.mono hb14.size); have HS := hSm p1 b1 c1 p2 b2 c2 w5 Hp1.out hp2 ((He1.out).below hb5 hs1) he2; clear hp2 he2)
        | (go_at_call 12; (with_reducible refine (HS.out).mono ?_); rintro e w6 ⟨rfl, hb6⟩; have hb16 := hb15.trans (hb6.mono hb15.size))
        | (go_at_call 9; (with_reducible refine ((hPs _ hb16).out).mono ?_); rintro e w7 ⟨rfl, hb7⟩))
      go_ret
      exact ⟨rfl, hb16.trans (hb7.mono hb16.size)⟩
end Go.Proofs.YtgdghaijjhbegaaGreatDoor
