/- The walks of the laws on what is read of a good archive. -/
import Derived.Test.YtgdghaijjhbegaaGreatDoorLawA
import Derived.Test.YtgdghaijjhbegaaGreatDoorSpecP
namespace Go.Proofs.YtgdghaijjhbegaaGreatDoor
open Go.RowKit
set_option maxRecDepth 100000

section
variable {p : Option Addr} {b o cap : Nat} {es : List Ent} {w : World} (h : Asked p b o cap es w)
include h
theorem Asked.placed (hok : entriesOkB es = true) (W : World) (hb : Below w.heap.size w W) : Hid (Calls Tryz.prog 13 #[.slice p es.length cap] W
    fun x w' => ∃ p1 b1 c1, x = .returned (.slice p1 (outs true es es.length).length c1) ∧ (outs true es es.length ≠ [] → p1 = some ⟨b1, 0, none⟩) ∧ EntsAt w' b1 0 (outs true es es.length) ∧ b1 < w'.heap.size ∧ Below W.heap.size W w') := by
  refine (Placed_any p b o cap es W h.hp (h.hw.below hb h.hB) hok (Nat.lt_of_lt_of_le h.hB hb.size)).mono ?_
  rintro x w' ⟨v, rfl, hv, hbb⟩
  obtain ⟨p1, b1, c1, rfl, h1, h2, _, h3, _⟩ := hv.at (by have := h.hL.pos; have := hb.size; have := hbb.size; omega)
  exact ⟨p1, b1, c1, rfl, h1, h2, h3, hbb⟩
theorem Asked.quiet (hok : entriesOkB es = true) (W : World) (hb : Below w.heap.size w W) (p1 : Option Addr) (b1 c1 : Nat) (h1 : outs true es es.length ≠ [] → p1 = some ⟨b1, 0, none⟩) (h2 : EntsAt W b1 0 (outs true es es.length)) (h3 : b1 < W.heap.size) :
    Hid (Calls Tryz.prog 14 #[.slice p1 (outs true es es.length).length c1] W
    fun x w' => ∃ p2 b2 c2, x = .returned (.slice p2 (outs false es es.length).length c2) ∧ (outs false es es.length ≠ [] → p2 = some ⟨b2, 0, none⟩) ∧ EntsAt w' b2 0 (outs false es es.length) ∧ b2 < w'.heap.size ∧ Below W.heap.size W w') := by
  have hle : (outs true es es.length).length ≤ 1000 := by
    unfold entriesOkB at hok
    simp only [Bool.and_eq_true, decide_eq_true_eq] at hok
    rw [outs_length true es es.length (Nat.le_refl _)]
    omega
  refine (Quiet_any p1 b1 0 c1 (outs true es es.length) W h1 h2 hle h3).mono ?_
  rintro x w' ⟨v, rfl, hv, hbb⟩
  rw [quiet_outs] at hv
  obtain ⟨p2, b2, c2, rfl, h1, h2, _, h3, _⟩ := hv.at (by have := h.hL.pos; have := hb.size; have := hbb.size; omega)
  exact ⟨p2, b2, c2, rfl, h1, h2, h3, hbb⟩
end

set_option maxHeartbeats 4000000 in
theorem FnExactParse_any (p : Option Addr) (b o cap : Nat) (es : List Ent) (w : World) (h : Asked p b o cap es w) :
    Calls Tryz.prog 3 #[.slice p es.length cap] w fun e w' => e = .returned (.bool true) ∧ Below w.heap.size w w' := by
  have hPs := h.parses
  have hb0 := Below.refl w.heap.size w
  cases hf : fitsB es
  · have hF := h.fits _ hf w hb0
    clear hf
    go_enter Tryz.func3, Tryz.ntmps3
    go_wp2_with (go_at_call 7; (with_reducible refine (hF.out).mono ?_); rintro e w1 ⟨rfl, hb1⟩)
    go_ret
    exact ⟨rfl, hb1⟩
  · have hF := h.fits _ hf w hb0
    cases hok : entriesOkB es
    · have hO := h.oks hf _ hok
      clear hf hok
      go_enter Tryz.func3, Tryz.ntmps3
      go_wp2_with (first
        | (go_at_call 7; (with_reducible refine (hF.out).mono ?_); rintro e w1 ⟨rfl, hb1⟩)
        | (go_at_call 8; (with_reducible refine ((hO _ hb1).out).mono ?_); rintro e w2 ⟨rfl, hb2⟩; have hb12 := hb1.trans (hb2.mono hb1.size))
        | (go_at_call 9; (with_reducible refine ((hPs _ hb12).out).mono ?_); rintro e w3 ⟨rfl, hb3⟩))
      go_ret
      exact ⟨rfl, hb12.trans (hb3.mono hb12.size)⟩
    · have hO := h.oks hf _ hok
      have hA := h.archive hok
      have hP := h.parse hok true
      have hPl := h.placed hok
      have hle := outs_le (vb := true) hok
      have hSm := fun p1 b1 c1 p2 b2 c2 W h1 h2 h3 h4 => hide (Same_any p1 p2 b1 0 c1 b2 0 c2 (outs true es es.length) W h1 h2 h3 h4 hle)
      clear hf hok hle
      generalize outs true es es.length = os at *
      go_enter Tryz.func3, Tryz.ntmps3
      go_wp2_with (first
        | (go_at_call 7; (with_reducible refine (hF.out).mono ?_); rintro e w1 ⟨rfl, hb1⟩)
        | (go_at_call 8; (with_reducible refine ((hO _ hb1).out).mono ?_); rintro e w2 ⟨rfl, hb2⟩; have hb12 := hb1.trans (hb2.mono hb1.size))
        | (go_at_call 11; (with_reducible refine ((hA _ hb12).out).mono ?_); rintro e w3 ⟨rfl, hb3⟩; have hb13 := hb12.trans (hb3.mono hb12.size))
        | (go_at_call 10; (with_reducible refine ((hP _ hb13).out).mono ?_); rintro e w4 ⟨p1, b1, c1, rfl, hp1, he1, hs1, hb4⟩; have hb14 := hb13.trans (hb4.mono hb13.size); have Hp1 := hide hp1; have He1 := hide he1; clear hp1 he1)
        | (go_at_call 13; (with_reducible refine ((hPl _ hb14).out).mono ?_); rintro e w5 ⟨p2, b2, c2, rfl, hp2, he2, hs2, hb5⟩; have hb15 := hb14.trans (hb5.mono hb14.size); have HS := hSm p1 b1 c1 p2 b2 c2 w5 Hp1.out hp2 ((He1.out).below hb5 hs1) he2; clear hp2 he2)
        | (go_at_call 12; (with_reducible refine (HS.out).mono ?_); rintro e w6 ⟨rfl, hb6⟩; have hb16 := hb15.trans (hb6.mono hb15.size))
        | (go_at_call 9; (with_reducible refine ((hPs _ hb16).out).mono ?_); rintro e w7 ⟨rfl, hb7⟩))
      go_ret
      exact ⟨rfl, hb16.trans (hb7.mono hb16.size)⟩
set_option maxHeartbeats 4000000 in
theorem FnExactParseQuiet_any (p : Option Addr) (b o cap : Nat) (es : List Ent) (w : World) (h : Asked p b o cap es w) :
    Calls Tryz.prog 4 #[.slice p es.length cap] w fun e w' => e = .returned (.bool true) ∧ Below w.heap.size w w' := by
  have hPs := h.parses
  have hb0 := Below.refl w.heap.size w
  cases hf : fitsB es
  · have hF := h.fits _ hf w hb0
    clear hf
    go_enter Tryz.func4, Tryz.ntmps4
    go_wp2_with (go_at_call 7; (with_reducible refine (hF.out).mono ?_); rintro e w1 ⟨rfl, hb1⟩)
    go_ret
    exact ⟨rfl, hb1⟩
  · have hF := h.fits _ hf w hb0
    cases hok : entriesOkB es
    · have hO := h.oks hf _ hok
      clear hf hok
      go_enter Tryz.func4, Tryz.ntmps4
      go_wp2_with (first
        | (go_at_call 7; (with_reducible refine (hF.out).mono ?_); rintro e w1 ⟨rfl, hb1⟩)
        | (go_at_call 8; (with_reducible refine ((hO _ hb1).out).mono ?_); rintro e w2 ⟨rfl, hb2⟩; have hb12 := hb1.trans (hb2.mono hb1.size))
        | (go_at_call 9; (with_reducible refine ((hPs _ hb12).out).mono ?_); rintro e w3 ⟨rfl, hb3⟩))
      go_ret
      exact ⟨rfl, hb12.trans (hb3.mono hb12.size)⟩
    · have hO := h.oks hf _ hok
      have hA := h.archive hok
      have hP := h.parse hok false
      have hPl := h.placed hok
      have hQ := h.quiet hok
      have hle := outs_le (vb := false) hok
      have hSm := fun p1 b1 c1 p2 b2 c2 W h1 h2 h3 h4 => hide (Same_any p1 p2 b1 0 c1 b2 0 c2 (outs false es es.length) W h1 h2 h3 h4 hle)
      clear hf hok hle
      generalize outs true es es.length = ot at *
      generalize outs false es es.length = os at *
      go_enter Tryz.func4, Tryz.ntmps4
      go_wp2_with (first
        | (go_at_call 7; (with_reducible refine (hF.out).mono ?_); rintro e w1 ⟨rfl, hb1⟩)
        | (go_at_call 8; (with_reducible refine ((hO _ hb1).out).mono ?_); rintro e w2 ⟨rfl, hb2⟩; have hb12 := hb1.trans (hb2.mono hb1.size))
        | (go_at_call 11; (with_reducible refine ((hA _ hb12).out).mono ?_); rintro e w3 ⟨rfl, hb3⟩; have hb13 := hb12.trans (hb3.mono hb12.size))
        | (go_at_call 10; (with_reducible refine ((hP _ hb13).out).mono ?_); rintro e w4 ⟨p1, b1, c1, rfl, hp1, he1, hs1, hb4⟩; have hb14 := hb13.trans (hb4.mono hb13.size); have Hp1 := hide hp1; have He1 := hide he1; clear hp1 he1)
        | (go_at_call 13; (with_reducible refine ((hPl _ hb14).out).mono ?_); rintro e w5 ⟨p2, b2, c2, rfl, hp2, he2, hs2, hb5⟩; have hb15 := hb14.trans (hb5.mono hb14.size); have HQ := hQ _ hb15 p2 b2 c2 hp2 he2 hs2; have He5 := hide ((He1.out).below hb5 hs1); have hs15 := Nat.lt_of_lt_of_le hs1 hb5.size; clear hp2 he2)
        | (go_at_call 14; (with_reducible refine (HQ.out).mono ?_); rintro e w8 ⟨p3, b3, c3, rfl, hp3, he3, hs3, hb8⟩; have hb18 := hb15.trans (hb8.mono hb15.size); have HS := hSm p1 b1 c1 p3 b3 c3 w8 Hp1.out hp3 ((He5.out).below hb8 hs15) he3; clear hp3 he3)
        | (go_at_call 12; (with_reducible refine (HS.out).mono ?_); rintro e w6 ⟨rfl, hb6⟩; have hb16 := hb18.trans (hb6.mono hb18.size))
        | (go_at_call 9; (with_reducible refine ((hPs _ hb16).out).mono ?_); rintro e w7 ⟨rfl, hb7⟩))
      go_ret
      exact ⟨rfl, hb16.trans (hb7.mono hb16.size)⟩
end Go.Proofs.YtgdghaijjhbegaaGreatDoor
