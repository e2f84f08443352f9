/- The walks of laws.FnExactTrim and laws.FnTrimSixteen: they return true. -/
import Derived.Test.YtgdghaijjhbegaaDoorNameA
import Derived.Deep.RegionWith
import Derived.BigRegion
namespace Go.Proofs.YtgdghaijjhbegaaDoor
open Go.RowKit
set_option maxRecDepth 100000

set_option maxHeartbeats 400000 in
theorem Trim_any (xs : List UInt8) (w : World) (hl : xs.length ≤ 9223372036854775807) :
    Calls Tryd.prog 11 #[.string ⟨xs.toArray⟩] w fun e w' =>
      e = .returned (.string ⟨(rtrim 32 xs).toArray⟩) ∧ Below w.heap.size w w' := by
  have hv := Lib.run_convert_string_bytes (P := Tryd.prog) w 9 41 5 ⟨xs.toArray⟩ Tryd.underlying9 Tryd.underlying41 Tryd.underlying5
  have hb := below_bytesWorld w 5 ⟨xs.toArray⟩
  have hc := bytesAt_bytesWorld w 5 xs
  have hg := grownCap_ge w xs.length 0 5
  have hsz : (ByteArray.mk xs.toArray).size = xs.length := by simp [ByteArray.size]
  rw [hsz] at hv
  generalize Lib.bytesWorld w 5 ⟨xs.toArray⟩ = w1 at *
  generalize grownCap w xs.length 0 5 = cap at *
  clear hsz
  have Hc := hide (trimSpace_any w.heap.size 0 cap xs w1 hc hl hg)
  clear hc
  go_enter Tryd.func11, Tryd.ntmps11
  go_wp2_with (first | (go_at_call 28; go_in) | (go_at_call 40; refine (Hc.out).mono ?_; rintro e w' ⟨rfl, rfl⟩))
  go_ret
  exact ⟨rfl, hb⟩

set_option maxHeartbeats 400000 in
theorem Sixteen_any (xs : List UInt8) (w : World) (hl : xs.length ≤ 16) :
    Calls Tryd.prog 14 #[.string ⟨xs.toArray⟩] w fun e w' =>
      e = .returned (.string ⟨(padTo 16 xs).toArray⟩) ∧ w = w' := by
  go_enter Tryd.func14, Tryd.ntmps14
  go_wp2_with (first | (go_at_call 29; go_in) | (go_at_call 41; refine (exactly16_any xs _ hl).mono ?_; rintro e w' ⟨rfl, rfl⟩))
  go_ret
  exact ⟨rfl, rfl⟩

theorem Sixteen_a (w : World) : Calls Tryd.prog 14 #[.string ⟨#[97]⟩] w fun e w' =>
      e = .returned (.string ⟨#[97, 32, 32, 32, 32, 32, 32, 32, 32, 32, 32, 32, 32, 32, 32, 32]⟩) ∧ w = w' := Sixteen_any [97] w (by decide)
theorem Trim_a (w : World) : Calls Tryd.prog 11 #[.string ⟨#[97, 32]⟩] w fun e w' =>
      e = .returned (.string ⟨#[97]⟩) ∧ Below w.heap.size w w' := Trim_any [97, 32] w (by decide)

set_option maxHeartbeats 400000 in
theorem heads_any (w : World) : Calls Tryd.prog 12 #[] w fun e w' => e = .returned (.bool true) ∧ Below w.heap.size w w' := by
  go_enter Tryd.func12, Tryd.ntmps12
  go_wp2_with (first | (go_at_call 14; refine (Sixteen_a _).mono ?_; rintro e w' ⟨rfl, rfl⟩) | (go_at_call 11; refine (Trim_a _).mono ?_; rintro e w' ⟨rfl, hb⟩))
  go_ret
  exact ⟨rfl, hb⟩

set_option maxHeartbeats 400000 in
theorem FnExactTrim_any (xs : List UInt8) (w : World) (hs : xs.length ≤ 9223372036854775807) :
    Calls Tryd.prog 3 #[.string ⟨xs.toArray⟩] w fun e w' => e = .returned (.bool true) ∧ Below w.heap.size w w' := by
  by_cases hbig : 2147483647 < xs.length
  · go_enter Tryd.func3, Tryd.ntmps3
    go_wp2
    go_ret
    exact ⟨rfl, Below.refl _ _⟩
  · go_enter Tryd.func3, Tryd.ntmps3
    go_wp2
    go_loop [3] (fun s => ∃ m : Nat, m ≤ xs.length ∧ s = .int .i64 m ∧ Hid (rtrim 32 (xs.take m) = rtrim 32 xs)) (fun s => (intOf s).toNat)
    case atStart => exact ⟨_, Nat.le_refl _, rfl, by rw [List.take_length]; exact rfl⟩
    case round =>
      obtain ⟨m, hm, rfl, hr⟩ := hrel
      by_cases hm0 : 0 < m ∧ xs[m - 1]? = some 32
      · obtain ⟨h0, he⟩ := hm0
        obtain ⟨hlt, he⟩ := List.getElem?_eq_some_iff.1 he
        have Ht := hide (List.take_succ_eq_append_getElem hlt)
        have hb : ((((ByteArray.mk xs.toArray)[m - 1]'(by simpa [ByteArray.size] using hlt)).toNat : Int) == 32) = true := by
          have : (ByteArray.mk xs.toArray)[m - 1]'(by simpa [ByteArray.size] using hlt) = 32 := he
          rw [this]; rfl
        have He := hide he
        clear he
        go_wp2
        go_round
        case rel =>
          refine ⟨m - 1, by omega, ?_, ?_⟩
          · congr 1; omega
          · have h1 := Ht.out
            rw [He.out, show m - 1 + 1 = m from by omega] at h1
            have h2 := hr.out
            rw [h1, rtrim_snoc_eq] at h2
            exact h2
        case measure => simp [intOf]; omega
      · have hx : rtrim 32 xs = xs.take m := by
          rw [← hr.out]
          rcases Nat.eq_zero_or_pos m with h0 | h0
          · subst h0; rfl
          · have hlt : m - 1 < xs.length := by omega
            have h1 := List.take_succ_eq_append_getElem hlt
            rw [show m - 1 + 1 = m from by omega] at h1
            have hne : xs[m - 1] ≠ 32 := fun e => hm0 ⟨h0, by rw [List.getElem?_eq_getElem hlt, e]⟩
            rw [h1, rtrim_snoc_ne _ _ _ hne]
        have hq : (rtrim 32 xs == ((ByteArray.mk xs.toArray).extract 0 m).toList) = true := by rw [hx, extract_toList]; simp
        clear hx
        by_cases h0 : 0 < m
        · have hlt : m - 1 < xs.length := by omega
          have hb : ((((ByteArray.mk xs.toArray)[m - 1]'(by simpa [ByteArray.size] using hlt)).toNat : Int) == 32) = false := by
            rw [beq_eq_false_iff_ne]
            intro e
            exact hm0 ⟨h0, by rw [List.getElem?_eq_getElem hlt, show xs[m - 1] = 32 from u8_eq_int (y := 32) |>.1 e]⟩
          clear hm0
          go_wp2
          go_region_with (first | (go_at_call 11; refine (Trim_any xs _ hs).mono ?_; rintro e w1 ⟨rfl, hb1⟩) | (go_at_call 12; refine (heads_any _).mono ?_; rintro e w2 ⟨rfl, hb2⟩))
          go_wp2
          go_ret
          exact ⟨rfl, (Below.refl _ w).drew.trans (hb1.trans (hb2.mono hb1.size))⟩
        · clear hm0
          have h0' : m ≤ 0 := by omega
          clear h0
          go_wp2
          go_region_with (first | (go_at_call 11; refine (Trim_any xs _ hs).mono ?_; rintro e w1 ⟨rfl, hb1⟩) | (go_at_call 12; refine (heads_any _).mono ?_; rintro e w2 ⟨rfl, hb2⟩))
          go_wp2
          go_ret
          exact ⟨rfl, (Below.refl _ w).drew.trans (hb1.trans (hb2.mono hb1.size))⟩
set_option maxHeartbeats 400000 in
theorem FnTrimSixteen_any (xs : List UInt8) (w : World) (hs : xs.length ≤ 9223372036854775807) :
    Calls Tryd.prog 4 #[.string ⟨xs.toArray⟩] w fun e w' => e = .returned (.bool true) ∧ Below w.heap.size w w' := by
  by_cases hbig : 2147483647 < xs.length
  · go_enter Tryd.func4, Tryd.ntmps4
    go_wp2
    go_ret
    exact ⟨rfl, Below.refl _ _⟩
  · cases hok : nameOk xs
    · have hN := hide ((NameOk_any xs w hs).mono fun e w' h => (by rw [hok] at h; exact h : e = .returned (.bool false) ∧ w = w'))
      clear hok
      go_enter Tryd.func4, Tryd.ntmps4
      go_wp2_with (first | (go_at_call 13; refine hN.out.mono ?_; rintro e w1 ⟨rfl, rfl⟩) | (go_at_call 12; refine (heads_any _).mono ?_; rintro e w2 ⟨rfl, hb2⟩))
      go_ret
      exact ⟨rfl, hb2⟩
    · have hN := hide ((NameOk_any xs w hs).mono fun e w' h => (by rw [hok] at h; exact h : e = .returned (.bool true) ∧ w = w'))
      have hl : xs.length ≤ 16 := by
        unfold nameOk at hok
        simp only [Bool.and_eq_true, decide_eq_true_eq] at hok
        exact hok.2.2
      have hS := hide (Sixteen_any xs w hl)
      have hpl : (padTo 16 xs).length ≤ 9223372036854775807 := by simp [padTo]; omega
      have hT := hide ((Trim_any (padTo 16 xs) w hpl).mono fun e w' h => (by rw [rtrim_padTo xs hok] at h; exact h : e = .returned (.string ⟨xs.toArray⟩) ∧ Below w.heap.size w w'))
      clear hok hpl
      go_enter Tryd.func4, Tryd.ntmps4
      go_wp2_with (first | (go_at_call 13; refine hN.out.mono ?_; rintro e w1 ⟨rfl, rfl⟩) | (go_at_call 12; refine (heads_any _).mono ?_; rintro e w2 ⟨rfl, hb2⟩) | (go_at_call 14; refine hS.out.mono ?_; rintro e w1 ⟨rfl, rfl⟩) | (go_at_call 11; refine hT.out.mono ?_; rintro e w3 ⟨rfl, hb3⟩))
      go_ret
      exact ⟨rfl, hb3.trans (hb2.mono hb3.size)⟩
end Go.Proofs.YtgdghaijjhbegaaDoor
