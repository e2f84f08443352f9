/- The walk of laws.FnParseMagic: it returns true. -/
import Derived.Test.YtgdghaijjhbegaaDoorLawB
namespace Go.Proofs.YtgdghaijjhbegaaDoor
open Go.RowKit
set_option maxRecDepth 100000

set_option maxHeartbeats 4000000 in
theorem FnParseMagic_any (p : Option Addr) (b o cap : Nat) (es : List Ent) (i : Int) (c : UInt8) (w : World) (h : Asked p b o cap es w) :
    Calls Tryd.prog 8 #[.slice p es.length cap, .int .i64 i, .int .u8 (c.toNat : Int)] w fun e w' => e = .returned (.bool true) ∧ Below w.heap.size w w' := by
  have hPs := h.parses
  have hb0 := Below.refl w.heap.size w
  cases hf : fitsB es
  · have hF := h.fits _ hf w hb0
    clear hf
    go_enter Tryd.func8, Tryd.ntmps8
    go_wp2_with (go_at_call 15; (with_reducible refine (hF.out).mono ?_); rintro e w1 ⟨rfl, hb1⟩)
    go_ret
    exact ⟨rfl, hb1⟩
  · have hF := h.fits _ hf w hb0
    cases hok : entriesOkB es
    · have hO := h.oks hf _ hok
      clear hf hok
      go_enter Tryd.func8, Tryd.ntmps8
      go_wp2_with (first
        | (go_at_call 15; (with_reducible refine (hF.out).mono ?_); rintro e w1 ⟨rfl, hb1⟩)
        | (go_at_call 16; (with_reducible refine ((hO _ hb1).out).mono ?_); rintro e w2 ⟨rfl, hb2⟩; have hb12 := hb1.trans (hb2.mono hb1.size))
        | (go_at_call 25; (with_reducible refine ((hPs _ hb12).out).mono ?_); rintro e w3 ⟨rfl, hb3⟩))
      go_ret
      exact ⟨rfl, hb12.trans (hb3.mono hb12.size)⟩
    · have hO := h.oks hf _ hok
      by_cases hin : 0 ≤ i ∧ i ≤ 7 ∧ ¬ (c.toNat : Int) = 0
      · obtain ⟨hn0, hn1, hc0⟩ := hin
        obtain ⟨i, rfl⟩ := Int.eq_ofNat_of_zero_le hn0
        have hA := h.archive hok
        have hll := archB_len hok
        have hl8 : 8 ≤ (archB es).length := by simp [archB, magicB]
        have hil : i < (archB es).length := by omega
        have hcne : c ≠ 0 := by rintro rfl; exact hc0 rfl
        have hm := magic_bad es (i := i) (by omega) ((archB es)[i] ^^^ c) (by rw [List.getElem?_eq_getElem hil]; intro e; exact xor_ne hcne (Option.some.inj e).symm)
        have hG := fun W => hide (GoObject_any ((archB es).set i ((archB es)[i] ^^^ c)) W (by rw [List.length_set]; omega))
        have hX := fun (hg : goObjB ((archB es).set i ((archB es)[i] ^^^ c)) = false) W (hb : Below w.heap.size w W) => hide (iParse_none true ((archB es).set i ((archB es)[i] ^^^ c)) W (by rw [List.length_set]; omega) hm
          (by intro e; unfold goObjB at hg; rw [e, List.length_set] at hg; simp [goObjM] at hg; omega) (by rw [List.length_set]; omega) (PLaid.mono (h.hL.below hb) hb.size))
        have hxor := xor_u8 ((archB es)[i]) c
        have hcb : ((c.toNat : Int) == 0) = false := beq_eq_false_iff_ne.2 hc0
        have hn0' : ¬ ((i : Int) < 0) := by omega
        have hn1' : ¬ ((7 : Int) < i) := by omega
        clear hf hok h hcne hm
        generalize archB es = acc at *
        generalize hx : acc[i] = x at *
        cases hg : goObjB (acc.set i (x ^^^ c))
        · have hX := hX hg
          rw [hg] at hG
          clear hg
          go_enter Tryd.func8, Tryd.ntmps8
          go_wp2_with (first
            | (go_at_call 15; (with_reducible refine (hF.out).mono ?_); rintro e w1 ⟨rfl, hb1⟩)
            | (go_at_call 16; (with_reducible refine ((hO _ hb1).out).mono ?_); rintro e w2 ⟨rfl, hb2⟩; have hb12 := hb1.trans (hb2.mono hb1.size))
            | (go_at_call 19; (with_reducible refine ((hA _ hb12).out).mono ?_); rintro e w3 ⟨rfl, hb3⟩; have hb13 := hb12.trans (hb3.mono hb12.size); clear hA; obtain ⟨cB, W1, hcv, hby, hbb, hfz, hgs, hcl⟩ := bytes_made w3 acc; have hb1W := hb13.trans (hbb.mono hb13.size); have fz4 := hfz i hil; have c4 := hby i hil; rw [Nat.zero_add, hx] at c4; have hst := stored_str W1 w3.heap.size cB i acc (x ^^^ c) hby hil; have hb1S := below_set (i := i) hb1W hb13.size (.int .u8 ((x ^^^ c).toNat : Int)); rw [UInt8.toNat_xor] at hst hb1S; clear hby hfz hbb)
            | (go_at_call 27; (with_reducible refine ((hG _).out).mono ?_); rintro e w4 ⟨rfl, rfl⟩)
            | (go_at_call 26; (with_reducible refine ((hX _ hb1S).out).mono ?_); rintro e w5 ⟨rfl, hb5⟩; have hb15 := hb1S.trans (hb5.mono hb1S.size))
            | (go_at_call 25; (with_reducible refine ((hPs _ hb15).out).mono ?_); rintro e w6 ⟨rfl, hb6⟩))
          go_ret
          exact ⟨rfl, hb15.trans (hb6.mono hb15.size)⟩
        · rw [hg] at hG
          clear hg hX
          go_enter Tryd.func8, Tryd.ntmps8
          go_wp2_with (first
            | (go_at_call 15; (with_reducible refine (hF.out).mono ?_); rintro e w1 ⟨rfl, hb1⟩)
            | (go_at_call 16; (with_reducible refine ((hO _ hb1).out).mono ?_); rintro e w2 ⟨rfl, hb2⟩; have hb12 := hb1.trans (hb2.mono hb1.size))
            | (go_at_call 19; (with_reducible refine ((hA _ hb12).out).mono ?_); rintro e w3 ⟨rfl, hb3⟩; have hb13 := hb12.trans (hb3.mono hb12.size); clear hA; obtain ⟨cB, W1, hcv, hby, hbb, hfz, hgs, hcl⟩ := bytes_made w3 acc; have hb1W := hb13.trans (hbb.mono hb13.size); have fz4 := hfz i hil; have c4 := hby i hil; rw [Nat.zero_add, hx] at c4; have hst := stored_str W1 w3.heap.size cB i acc (x ^^^ c) hby hil; have hb1S := below_set (i := i) hb1W hb13.size (.int .u8 ((x ^^^ c).toNat : Int)); rw [UInt8.toNat_xor] at hst hb1S; clear hby hfz hbb)
            | (go_at_call 27; (with_reducible refine ((hG _).out).mono ?_); rintro e w4 ⟨rfl, rfl⟩)
            | (go_at_call 25; (with_reducible refine ((hPs _ hb1S).out).mono ?_); rintro e w6 ⟨rfl, hb6⟩))
          go_ret
          exact ⟨rfl, hb1S.trans (hb6.mono hb1S.size)⟩
      · clear hf hok
        have hcs : i < 0 ∨ (¬ i < 0 ∧ (7 < i ∨ (¬ 7 < i ∧ (c.toNat : Int) = 0))) := by omega
        clear hin
        go_enter Tryd.func8, Tryd.ntmps8
        rcases hcs with h1 | ⟨h1, h2 | ⟨h2, h3⟩⟩
        all_goals
          go_wp2_with (first
            | (go_at_call 15; (with_reducible refine (hF.out).mono ?_); rintro e w1 ⟨rfl, hb1⟩)
            | (go_at_call 16; (with_reducible refine ((hO _ hb1).out).mono ?_); rintro e w2 ⟨rfl, hb2⟩; have hb12 := hb1.trans (hb2.mono hb1.size))
            | (go_at_call 25; (with_reducible refine ((hPs _ hb12).out).mono ?_); rintro e w3 ⟨rfl, hb3⟩))
          go_ret
          exact ⟨rfl, hb12.trans (hb3.mono hb12.size)⟩
end Go.Proofs.YtgdghaijjhbegaaDoor
