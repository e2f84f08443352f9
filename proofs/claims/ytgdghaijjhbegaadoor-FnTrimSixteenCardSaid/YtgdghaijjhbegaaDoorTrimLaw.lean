/- The walk of laws.FnExactTrim: it returns true. -/
import Derived.Test.YtgdghaijjhbegaaDoorTrim
import Derived.Deep.RegionWith
import Derived.BigRegion
namespace Go.Proofs.YtgdghaijjhbegaaDoor
open Go.RowKit
set_option maxRecDepth 100000

theorem extract_toList (xs : List UInt8) (a b : Nat) : ((ByteArray.mk xs.toArray).extract a b).toList = (xs.drop a).take (b - a) := by
  rw [ByteArray.extract_mk, ByteArray.toList_eq]

theorem ofNat_u8_int (x : UInt8) : (x.toNat : Int) = 32 ↔ x = 32 := u8_eq_int (y := 32)

set_option maxHeartbeats 400000 in
theorem FnExactTrim_any (xs : List UInt8) (w : World) (hs : xs.length ≤ 9223372036854775807) :
    Calls Tryd.prog 3 #[.string ⟨xs.toArray⟩] w fun e w' => e = .returned (.bool true) ∧ Below w.heap.size w w' := by
  by_cases hbig : 2147483647 < xs.length
  · go_enter Tryd.func3, Tryd.ntmps3
    go_wp2
    go_ret
    exact ⟨rfl, Below.refl _ _⟩
  · go_enter Tryd.func3, Tryd.ntmps3
    go_wp2
    go_loop [3] (fun s => ∃ m : Nat, m ≤ xs.length ∧ s = .int .i64 m ∧ Hid (rtrim 32 (xs.take m) = rtrim 32 xs)) (fun s => (intOf s).toNat)
    case atStart => exact ⟨_, Nat.le_refl _, rfl, by rw [List.take_length]; exact rfl⟩
    case round =>
      obtain ⟨m, hm, rfl, hr⟩ := hrel
      by_cases hm0 : 0 < m ∧ xs[m - 1]? = some 32
      · obtain ⟨h0, he⟩ := hm0
        obtain ⟨hlt, he⟩ := List.getElem?_eq_some_iff.1 he
        have Ht := hide (List.take_succ_eq_append_getElem hlt)
        have hb : ((((ByteArray.mk xs.toArray)[m - 1]'(by simpa [ByteArray.size] using hlt)).toNat : Int) == 32) = true := by
          have : (ByteArray.mk xs.toArray)[m - 1]'(by simpa [ByteArray.size] using hlt) = 32 := he
          rw [this]; rfl
        have He := hide he
        clear he
        go_wp2
        go_round
        case rel =>
          refine ⟨m - 1, by omega, ?_, ?_⟩
          · congr 1; omega
          · have h1 := Ht.out
            rw [He.out, show m - 1 + 1 = m from by omega] at h1
            have h2 := hr.out
            rw [h1, rtrim_snoc_eq] at h2
            exact h2
        case measure => simp [intOf]; omega
      · have hx : rtrim 32 xs = xs.take m := by
          rw [← hr.out]
          rcases Nat.eq_zero_or_pos m with h0 | h0
          · subst h0; rfl
          · have hlt : m - 1 < xs.length := by omega
            have h1 := List.take_succ_eq_append_getElem hlt
            rw [show m - 1 + 1 = m from by omega] at h1
            have hne : xs[m - 1] ≠ 32 := fun e => hm0 ⟨h0, by rw [List.getElem?_eq_getElem hlt, e]⟩
            rw [h1, rtrim_snoc_ne _ _ _ hne]
        have hq : (rtrim 32 xs == ((ByteArray.mk xs.toArray).extract 0 m).toList) = true := by rw [hx, extract_toList]; simp
        clear hx
        by_cases h0 : 0 < m
        · have hlt : m - 1 < xs.length := by omega
          have hb : ((((ByteArray.mk xs.toArray)[m - 1]'(by simpa [ByteArray.size] using hlt)).toNat : Int) == 32) = false := by
            rw [beq_eq_false_iff_ne]
            intro e
            exact hm0 ⟨h0, by rw [List.getElem?_eq_getElem hlt, show xs[m - 1] = 32 from u8_eq_int (y := 32) |>.1 e]⟩
          clear hm0
          go_wp2
          go_region_with (first | (go_at_call 11; refine (Trim_any xs _ hs).mono ?_; rintro e w1 ⟨rfl, hb1⟩) | (go_at_call 12; refine (heads_any _).mono ?_; rintro e w2 ⟨rfl, hb2⟩))
          go_wp2
          go_ret
          exact ⟨rfl, (Below.refl _ w).drew.trans (hb1.trans (hb2.mono hb1.size))⟩
        · clear hm0
          have h0' : m ≤ 0 := by omega
          clear h0
          go_wp2
          go_region_with (first | (go_at_call 11; refine (Trim_any xs _ hs).mono ?_; rintro e w1 ⟨rfl, hb1⟩) | (go_at_call 12; refine (heads_any _).mono ?_; rintro e w2 ⟨rfl, hb2⟩))
          go_wp2
          go_ret
          exact ⟨rfl, (Below.refl _ w).drew.trans (hb1.trans (hb2.mono hb1.size))⟩
/-- The name of an entry: 1 to 16 signs from the exclamation mark to the tilde. -/
def nameOk (xs : List UInt8) : Bool := xs.all (fun c => decide (33 ≤ c.toNat) && decide (c.toNat ≤ 126)) && (decide (xs ≠ []) && decide (xs.length ≤ 16))

set_option maxHeartbeats 400000 in
theorem NameOk_any (xs : List UInt8) (w : World) (hs : xs.length ≤ 9223372036854775807) :
    Calls Tryd.prog 13 #[.string ⟨xs.toArray⟩] w fun e w' => e = .returned (.bool (nameOk xs)) ∧ w = w' := by
  go_enter Tryd.func13, Tryd.ntmps13
  go_wp2
  go_loop [3] (fun s => ∃ k : Nat, k ≤ xs.length ∧ s = .int .i64 k ∧ Hid (∀ i (h : i < xs.length), i < k → 33 ≤ xs[i].toNat ∧ xs[i].toNat ≤ 126)) (fun s => xs.length - (intOf s).toNat)
  case atStart => exact ⟨0, Nat.zero_le _, rfl, fun i h hi => absurd hi (by omega)⟩
  case round =>
    obtain ⟨k, hk, rfl, hr⟩ := hrel
    by_cases hlt : k < xs.length
    · have ex : ((ByteArray.mk xs.toArray)[k]'(by simpa [ByteArray.size] using hlt)) = xs[k] := rfl
      by_cases h1 : xs[k].toNat < 33
      · have hfin : nameOk xs = false := by
          have hm : xs[k] ∈ xs := List.getElem_mem hlt
          have : xs.all (fun c => decide (33 ≤ c.toNat) && decide (c.toNat ≤ 126)) = false := by
            rw [List.all_eq_false]; exact ⟨_, hm, by simp; omega⟩
          simp [nameOk, this]
        have Hfin := hide hfin
        clear hfin
        rw [← ex] at h1
        clear ex
        go_wp2
        go_ret
        exact ⟨by rw [Hfin.out]; rfl, rfl⟩
      · by_cases h2 : 126 < xs[k].toNat
        · have hfin : nameOk xs = false := by
            have hm : xs[k] ∈ xs := List.getElem_mem hlt
            have : xs.all (fun c => decide (33 ≤ c.toNat) && decide (c.toNat ≤ 126)) = false := by
              rw [List.all_eq_false]; exact ⟨_, hm, by simp; omega⟩
            simp [nameOk, this]
          have Hfin := hide hfin
          clear hfin
          rw [← ex] at h1 h2
          clear ex
          go_wp2
          go_ret
          exact ⟨by rw [Hfin.out]; rfl, rfl⟩
        · have hnew : Hid (∀ i (h : i < xs.length), i < k + 1 → 33 ≤ xs[i].toNat ∧ xs[i].toNat ≤ 126) := fun i h hi => by
            rcases Nat.lt_or_ge i k with hik | hik
            · exact hr.out i h hik
            · obtain rfl : i = k := by omega
              exact ⟨by omega, by omega⟩
          rw [← ex] at h1 h2
          clear ex
          go_wp2
          go_round
          case rel => exact ⟨k + 1, by omega, by go_num, hnew⟩
          case measure => simp [intOf]; omega
    · have hall : xs.all (fun c => decide (33 ≤ c.toNat) && decide (c.toNat ≤ 126)) = true := by
        rw [List.all_eq_true]
        intro c hc
        obtain ⟨i, hi, rfl⟩ := List.getElem_of_mem hc
        have := hr.out i hi (by omega)
        simp; omega
      have Hall := hide hall
      clear hall
      by_cases hne : xs = []
      · have Hne := hide hne
        have hq : (xs == []) = true := by rw [hne]; rfl
        go_wp2
        go_ret
        exact ⟨rfl, rfl⟩
      · go_wp2
        go_ret
        refine ⟨?_, rfl⟩
        have e : nameOk xs = (!xs.isEmpty && decide ((xs.length : Int) ≤ 16)) := by
          unfold nameOk
          rw [Hall.out, Bool.true_and]
          congr 1
          · cases xs <;> simp
          · rw [decide_eq_decide]; omega
        rw [e]; rfl

theorem rtrim_padTo (xs : List UInt8) (h : nameOk xs = true) : rtrim 32 (padTo 16 xs) = xs := by
  unfold nameOk at h
  simp only [Bool.and_eq_true, decide_eq_true_eq, List.all_eq_true] at h
  obtain ⟨hall, hne, _⟩ := h
  unfold rtrim padTo
  rw [List.reverse_append, List.reverse_replicate]
  have h1 : ∀ (n : Nat) (l : List UInt8), (List.replicate n (32 : UInt8) ++ l).dropWhile (· == 32) = l.dropWhile (· == 32) := by
    intro n l
    induction n with
    | zero => simp
    | succ n ih => simp [List.replicate_succ, ih]
  rw [h1]
  have h2 : xs.reverse.dropWhile (· == 32) = xs.reverse := by
    cases hx : xs.reverse with
    | nil => rfl
    | cons c l =>
      have hc : c ∈ xs := by
        have : c ∈ xs.reverse := by rw [hx]; simp
        simpa using this
      have := (hall c hc).1
      have hn : (c == 32) = false := by
        rw [beq_eq_false_iff_ne]; rintro rfl; simp at this
      simp [hn]
  rw [h2, List.reverse_reverse]

theorem toList_mk (xs : List UInt8) : (ByteArray.mk xs.toArray).toList = xs := by rw [ByteArray.toList_eq]

set_option maxHeartbeats 400000 in
theorem FnTrimSixteen_any (xs : List UInt8) (w : World) (hs : xs.length ≤ 9223372036854775807) :
    Calls Tryd.prog 4 #[.string ⟨xs.toArray⟩] w fun e w' => e = .returned (.bool true) ∧ Below w.heap.size w w' := by
  by_cases hbig : 2147483647 < xs.length
  · go_enter Tryd.func4, Tryd.ntmps4
    go_wp2
    go_ret
    exact ⟨rfl, Below.refl _ _⟩
  · cases hok : nameOk xs
    · have hN := hide ((NameOk_any xs w hs).mono fun e w' h => (by rw [hok] at h; exact h : e = .returned (.bool false) ∧ w = w'))
      clear hok
      go_enter Tryd.func4, Tryd.ntmps4
      go_wp2_with (first | (go_at_call 13; refine hN.out.mono ?_; rintro e w1 ⟨rfl, rfl⟩) | (go_at_call 12; refine (heads_any _).mono ?_; rintro e w2 ⟨rfl, hb2⟩))
      go_ret
      exact ⟨rfl, hb2⟩
    · have hN := hide ((NameOk_any xs w hs).mono fun e w' h => (by rw [hok] at h; exact h : e = .returned (.bool true) ∧ w = w'))
      have hl : xs.length ≤ 16 := by
        unfold nameOk at hok
        simp only [Bool.and_eq_true, decide_eq_true_eq] at hok
        exact hok.2.2
      have hS := hide (Sixteen_any xs w hl)
      have hpl : (padTo 16 xs).length ≤ 9223372036854775807 := by simp [padTo]; omega
      have hT := hide ((Trim_any (padTo 16 xs) w hpl).mono fun e w' h => (by rw [rtrim_padTo xs hok] at h; exact h : e = .returned (.string ⟨xs.toArray⟩) ∧ Below w.heap.size w w'))
      clear hok hpl
      go_enter Tryd.func4, Tryd.ntmps4
      go_wp2_with (first | (go_at_call 13; refine hN.out.mono ?_; rintro e w1 ⟨rfl, rfl⟩) | (go_at_call 12; refine (heads_any _).mono ?_; rintro e w2 ⟨rfl, hb2⟩) | (go_at_call 14; refine hS.out.mono ?_; rintro e w1 ⟨rfl, rfl⟩) | (go_at_call 11; refine hT.out.mono ?_; rintro e w3 ⟨rfl, hb3⟩))
      go_ret
      exact ⟨rfl, hb3.trans (hb2.mono hb3.size)⟩
end Go.Proofs.YtgdghaijjhbegaaDoor
