/- The walk of laws.FnParseCut: it returns true. -/
import Derived.Test.YtgdghaijjhbegaaDoorLawB
namespace Go.Proofs.YtgdghaijjhbegaaDoor
open Go.RowKit
set_option maxRecDepth 100000

set_option maxHeartbeats 4000000 in
theorem FnParseCut_any (p : Option Addr) (b o cap : Nat) (es : List Ent) (k n : Int) (w : World) (h : Asked p b o cap es w) :
    Calls Tryd.prog 7 #[.slice p es.length cap, .int .i64 k, .int .i64 n] w fun e w' => e = .returned (.bool true) ∧ Below w.heap.size w w' := by
  have hPs := h.parses
  have hb0 := Below.refl w.heap.size w
  cases hf : fitsB es
  · have hF := h.fits _ hf w hb0
    clear hf
    go_enter Tryd.func7, Tryd.ntmps7
    go_wp2_with (go_at_call 15; (with_reducible refine (hF.out).mono ?_); rintro e w1 ⟨rfl, hb1⟩)
    go_ret
    exact ⟨rfl, hb1⟩
  · have hF := h.fits _ hf w hb0
    cases hok : entriesOkB es
    · have hO := h.oks hf _ hok
      clear hf hok
      go_enter Tryd.func7, Tryd.ntmps7
      go_wp2_with (first
        | (go_at_call 15; (with_reducible refine (hF.out).mono ?_); rintro e w1 ⟨rfl, hb1⟩)
        | (go_at_call 16; (with_reducible refine ((hO _ hb1).out).mono ?_); rintro e w2 ⟨rfl, hb2⟩; have hb12 := hb1.trans (hb2.mono hb1.size))
        | (go_at_call 25; (with_reducible refine ((hPs _ hb12).out).mono ?_); rintro e w3 ⟨rfl, hb3⟩))
      go_ret
      exact ⟨rfl, hb12.trans (hb3.mono hb12.size)⟩
    · have hO := h.oks hf _ hok
      by_cases hin : 0 ≤ k ∧ k < es.length ∧ 1 ≤ n ∧ n ≤ 59
      · obtain ⟨hk0, hk1, hn0, hn1⟩ := hin
        obtain ⟨k, rfl⟩ := Int.eq_ofNat_of_zero_le hk0
        obtain ⟨n, rfl⟩ := Int.eq_ofNat_of_zero_le (show 0 ≤ n by omega)
        have hk : k < es.length := by omega
        obtain rfl := h.hp (by rintro rfl; exact absurd hk (Nat.not_lt_zero _))
        have hcap := h.hcap
        have hA := h.archive hok
        have hA2 := h.archiveTo hok k (by omega)
        obtain ⟨hall, hle⟩ := entriesOk_of hok
        have hpl := posAt_le (tail := []) hall hk
        have hll := archB_len hok
        rw [List.append_nil] at hpl
        have hX := h.bad hok k ((archB es).take (posAt es k + n)) (cut_bad hall hk (by omega) (by omega)) (by rw [List.length_take]; omega)
        have hpe : (archB (es.take k)).length = posAt es k := rfl
        have hxt := extract_take (archB es) (posAt es k + n)
        rw [← hxt] at hX
        have hsz : (ByteArray.mk (archB es).toArray).size = (archB es).length := by simp [ByteArray.size]
        have hsz2 : (ByteArray.mk (archB (es.take k)).toArray).size = posAt es k := by simp [ByteArray.size, hpe]
        clear hf hok hall hle hxt h hpe
        generalize posAt es k = pos at *
        generalize archB es = acc at *
        generalize archB (es.take k) = acc2 at *
        go_enter Tryd.func7, Tryd.ntmps7
        go_wp2_with (first
          | (go_at_call 15; (with_reducible refine (hF.out).mono ?_); rintro e w1 ⟨rfl, hb1⟩)
          | (go_at_call 16; (with_reducible refine ((hO _ hb1).out).mono ?_); rintro e w2 ⟨rfl, hb2⟩; have hb12 := hb1.trans (hb2.mono hb1.size))
          | (go_at_call 19; (with_reducible refine ((hA _ hb12).out).mono ?_); rintro e w3 ⟨rfl, hb3⟩; have hb13 := hb12.trans (hb3.mono hb12.size); clear hA)
          | (go_at_call 19; (with_reducible refine ((hA2 _ hb13).out).mono ?_); rintro e w4 ⟨rfl, hb4⟩; have hb14 := hb13.trans (hb4.mono hb13.size))
          | (go_at_call 26; (with_reducible refine ((hX _ hb14).out).mono ?_); rintro e w5 ⟨rfl, hb5⟩; have hb15 := hb14.trans (hb5.mono hb14.size))
          | (go_at_call 25; (with_reducible refine ((hPs _ hb15).out).mono ?_); rintro e w6 ⟨rfl, hb6⟩))
        go_ret
        exact ⟨rfl, hb15.trans (hb6.mono hb15.size)⟩
      · have hA := h.archive hok
        clear hf hok
        have hcs : k < 0 ∨ (0 ≤ k ∧ ((es.length : Int) ≤ k ∨ (k < es.length ∧ (n < 1 ∨ (1 ≤ n ∧ 59 < n))))) := by omega
        clear hin
        go_enter Tryd.func7, Tryd.ntmps7
        rcases hcs with h1 | ⟨h1, h1' | ⟨h1', h2 | ⟨h2, h2'⟩⟩⟩
        all_goals
          go_wp2_with (first
            | (go_at_call 15; (with_reducible refine (hF.out).mono ?_); rintro e w1 ⟨rfl, hb1⟩)
            | (go_at_call 16; (with_reducible refine ((hO _ hb1).out).mono ?_); rintro e w2 ⟨rfl, hb2⟩; have hb12 := hb1.trans (hb2.mono hb1.size))
            | (go_at_call 25; (with_reducible refine ((hPs _ hb12).out).mono ?_); rintro e w3 ⟨rfl, hb3⟩))
          go_ret
          exact ⟨rfl, hb12.trans (hb3.mono hb12.size)⟩
end Go.Proofs.YtgdghaijjhbegaaDoor
