/- The walk of laws.FnParseSpoilt: it returns true. -/
import Derived.Test.YtgdghaijjhbegaaDoorLawB
namespace Go.Proofs.YtgdghaijjhbegaaDoor
open Go.RowKit
set_option maxRecDepth 100000

set_option maxHeartbeats 4000000 in
theorem FnParseSpoilt_any (p : Option Addr) (b o cap : Nat) (es : List Ent) (k i : Int) (c : UInt8) (w : World) (h : Asked p b o cap es w) :
    Calls Tryd.prog 10 #[.slice p es.length cap, .int .i64 k, .int .i64 i, .int .u8 (c.toNat : Int)] w fun e w' => e = .returned (.bool true) ∧ Below w.heap.size w w' := by
  have hPs := h.parses
  have hb0 := Below.refl w.heap.size w
  cases hf : fitsB es
  · have hF := h.fits _ hf w hb0
    clear hf
    go_enter Tryd.func10, Tryd.ntmps10
    go_wp2_with (go_at_call 15; (with_reducible refine (hF.out).mono ?_); rintro e w1 ⟨rfl, hb1⟩)
    go_ret
    exact ⟨rfl, hb1⟩
  · have hF := h.fits _ hf w hb0
    cases hok : entriesOkB es
    · have hO := h.oks hf _ hok
      clear hf hok
      go_enter Tryd.func10, Tryd.ntmps10
      go_wp2_with (first
        | (go_at_call 15; (with_reducible refine (hF.out).mono ?_); rintro e w1 ⟨rfl, hb1⟩)
        | (go_at_call 16; (with_reducible refine ((hO _ hb1).out).mono ?_); rintro e w2 ⟨rfl, hb2⟩; have hb12 := hb1.trans (hb2.mono hb1.size))
        | (go_at_call 25; (with_reducible refine ((hPs _ hb12).out).mono ?_); rintro e w3 ⟨rfl, hb3⟩))
      go_ret
      exact ⟨rfl, hb12.trans (hb3.mono hb12.size)⟩
    · have hO := h.oks hf _ hok
      by_cases hin : 0 ≤ k ∧ k < es.length ∧ 58 ≤ i ∧ i ≤ 59 ∧ ¬ (c.toNat : Int) = 0
      · obtain ⟨hk0, hk1, hn0, hn1, hc0⟩ := hin
        obtain ⟨k, rfl⟩ := Int.eq_ofNat_of_zero_le hk0
        obtain ⟨i, rfl⟩ := Int.eq_ofNat_of_zero_le (show 0 ≤ i by omega)
        have hk : k < es.length := by omega
        obtain rfl := h.hp (by rintro rfl; exact absurd hk (Nat.not_lt_zero _))
        have hcap := h.hcap
        have hA := h.archive hok
        have hA2 := h.archiveTo hok k (by omega)
        obtain ⟨hall, hle⟩ := entriesOk_of hok
        have hpl := posAt_le (tail := []) hall hk
        have hll := archB_len hok
        rw [List.append_nil] at hpl
        have hil : posAt es k + i < (archB es).length := by omega
        have hcne : c ≠ 0 := by rintro rfl; exact hc0 rfl
        have hX := h.bad hok k ((archB es).set (posAt es k + i) ((archB es)[posAt es k + i] ^^^ c)) (spoilt_bad hall hk (by omega) _ (by
          rw [List.getElem?_eq_getElem hil]; intro e; exact xor_ne hcne (Option.some.inj e).symm)) (by rw [List.length_set]; omega)
        have hxor := xor_u8 ((archB es)[posAt es k + i]) c
        have hpe : (archB (es.take k)).length = posAt es k := rfl
        have hsz2 : (ByteArray.mk (archB (es.take k)).toArray).size = posAt es k := by simp [ByteArray.size, hpe]
        have hcb : ((c.toNat : Int) == 0) = false := beq_eq_false_iff_ne.2 hc0
        have hk0' : ¬ ((k : Int) < 0) := by omega
        have hn0' : ¬ ((i : Int) < 58) := by omega
        have hn1' : ¬ ((59 : Int) < i) := by omega
        clear hf hok hall hle h hpe hcne
        generalize posAt es k = pos at *
        generalize archB es = acc at *
        generalize archB (es.take k) = acc2 at *
        generalize hq : pos + i = q at *
        have hqi : (pos : Int) + i = q := by omega
        generalize hx : acc[q] = x at *
        go_enter Tryd.func10, Tryd.ntmps10
        go_wp2_with (first
          | (go_at_call 15; (with_reducible refine (hF.out).mono ?_); rintro e w1 ⟨rfl, hb1⟩)
          | (go_at_call 16; (with_reducible refine ((hO _ hb1).out).mono ?_); rintro e w2 ⟨rfl, hb2⟩; have hb12 := hb1.trans (hb2.mono hb1.size))
          | (go_at_call 19; (with_reducible refine ((hA _ hb12).out).mono ?_); rintro e w3 ⟨rfl, hb3⟩; have hb13 := hb12.trans (hb3.mono hb12.size); clear hA; obtain ⟨cB, W1, hcv, hby, hbb, hfz, hgs, hcl⟩ := bytes_made w3 acc; have hb1W := hb13.trans (hbb.mono hb13.size); have Hby := hide hby; have Hfz := hide (hfz q hil); clear hby hfz hbb)
          | (go_at_call 19; (with_reducible refine ((hA2 _ hb1W).out).mono ?_); rintro e w4 ⟨rfl, hb4⟩; have hb14 := hb1W.trans (hb4.mono hb1W.size); have hT4 := Trod.of_below (S := fun _ => False) hb4; have by4 := hT4.bytes Hby.out id; have fz4 := hT4.frozen hgs Hfz.out id; have c4 := by4 q hil; rw [Nat.zero_add, hx] at c4; have hst := stored_str w4 w3.heap.size cB q acc (x ^^^ c) by4 hil; have hb1S := below_set (i := q) hb14 hb13.size (.int .u8 ((x ^^^ c).toNat : Int)); rw [UInt8.toNat_xor] at hst hb1S; clear by4 hT4)
          | (go_at_call 26; (with_reducible refine ((hX _ hb1S).out).mono ?_); rintro e w5 ⟨rfl, hb5⟩; have hb15 := hb1S.trans (hb5.mono hb1S.size))
          | (go_at_call 25; (with_reducible refine ((hPs _ hb15).out).mono ?_); rintro e w6 ⟨rfl, hb6⟩))
        go_ret
        exact ⟨rfl, hb15.trans (hb6.mono hb15.size)⟩
      · clear hf hok
        have hcs : k < 0 ∨ (¬ k < 0 ∧ ((es.length : Int) ≤ k ∨ (¬ (es.length : Int) ≤ k ∧ (i < 58 ∨ (¬ i < 58 ∧ (59 < i ∨ (¬ 59 < i ∧ (c.toNat : Int) = 0))))))) := by omega
        clear hin
        go_enter Tryd.func10, Tryd.ntmps10
        rcases hcs with h1 | ⟨h1, h2 | ⟨h2, h3 | ⟨h3, h4 | ⟨h4, h5⟩⟩⟩⟩
        all_goals
          go_wp2_with (first
            | (go_at_call 15; (with_reducible refine (hF.out).mono ?_); rintro e w1 ⟨rfl, hb1⟩)
            | (go_at_call 16; (with_reducible refine ((hO _ hb1).out).mono ?_); rintro e w2 ⟨rfl, hb2⟩; have hb12 := hb1.trans (hb2.mono hb1.size))
            | (go_at_call 25; (with_reducible refine ((hPs _ hb12).out).mono ?_); rintro e w3 ⟨rfl, hb3⟩))
          go_ret
          exact ⟨rfl, hb12.trans (hb3.mono hb12.size)⟩
end Go.Proofs.YtgdghaijjhbegaaDoor
