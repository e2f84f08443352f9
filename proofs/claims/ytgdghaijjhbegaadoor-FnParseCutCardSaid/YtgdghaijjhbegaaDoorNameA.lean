/- Small plain laws, and the walk of spec.NameOk. -/
import Derived.Test.YtgdghaijjhbegaaDoorTrimA
import Derived.Deep.RegionWith
import Derived.BigRegion
namespace Go.Proofs.YtgdghaijjhbegaaDoor
open Go.RowKit
set_option maxRecDepth 100000

theorem extract_toList (xs : List UInt8) (a b : Nat) : ((ByteArray.mk xs.toArray).extract a b).toList = (xs.drop a).take (b - a) := by
  rw [ByteArray.extract_mk, ByteArray.toList_eq]

theorem ofNat_u8_int (x : UInt8) : (x.toNat : Int) = 32 ↔ x = 32 := u8_eq_int (y := 32)

/-- The name of an entry: 1 to 16 signs from the exclamation mark to the tilde. -/
def nameOk (xs : List UInt8) : Bool := xs.all (fun c => decide (33 ≤ c.toNat) && decide (c.toNat ≤ 126)) && (decide (xs ≠ []) && decide (xs.length ≤ 16))

set_option maxHeartbeats 400000 in
theorem NameOk_any (xs : List UInt8) (w : World) (hs : xs.length ≤ 9223372036854775807) :
    Calls Tryd.prog 13 #[.string ⟨xs.toArray⟩] w fun e w' => e = .returned (.bool (nameOk xs)) ∧ w = w' := by
  go_enter Tryd.func13, Tryd.ntmps13
  go_wp2
  go_loop [3] (fun s => ∃ k : Nat, k ≤ xs.length ∧ s = .int .i64 k ∧ Hid (∀ i (h : i < xs.length), i < k → 33 ≤ xs[i].toNat ∧ xs[i].toNat ≤ 126)) (fun s => xs.length - (intOf s).toNat)
  case atStart => exact ⟨0, Nat.zero_le _, rfl, fun i h hi => absurd hi (by omega)⟩
  case round =>
    obtain ⟨k, hk, rfl, hr⟩ := hrel
    by_cases hlt : k < xs.length
    · have ex : ((ByteArray.mk xs.toArray)[k]'(by simpa [ByteArray.size] using hlt)) = xs[k] := rfl
      by_cases h1 : xs[k].toNat < 33
      · have hfin : nameOk xs = false := by
          have hm : xs[k] ∈ xs := List.getElem_mem hlt
          have : xs.all (fun c => decide (33 ≤ c.toNat) && decide (c.toNat ≤ 126)) = false := by
            rw [List.all_eq_false]; exact ⟨_, hm, by simp; omega⟩
          simp [nameOk, this]
        have Hfin := hide hfin
        clear hfin
        rw [← ex] at h1
        clear ex
        go_wp2
        go_ret
        exact ⟨by rw [Hfin.out]; rfl, rfl⟩
      · by_cases h2 : 126 < xs[k].toNat
        · have hfin : nameOk xs = false := by
            have hm : xs[k] ∈ xs := List.getElem_mem hlt
            have : xs.all (fun c => decide (33 ≤ c.toNat) && decide (c.toNat ≤ 126)) = false := by
              rw [List.all_eq_false]; exact ⟨_, hm, by simp; omega⟩
            simp [nameOk, this]
          have Hfin := hide hfin
          clear hfin
          rw [← ex] at h1 h2
          clear ex
          go_wp2
          go_ret
          exact ⟨by rw [Hfin.out]; rfl, rfl⟩
        · have hnew : Hid (∀ i (h : i < xs.length), i < k + 1 → 33 ≤ xs[i].toNat ∧ xs[i].toNat ≤ 126) := fun i h hi => by
            rcases Nat.lt_or_ge i k with hik | hik
            · exact hr.out i h hik
            · obtain rfl : i = k := by omega
              exact ⟨by omega, by omega⟩
          rw [← ex] at h1 h2
          clear ex
          go_wp2
          go_round
          case rel => exact ⟨k + 1, by omega, by go_num, hnew⟩
          case measure => simp [intOf]; omega
    · have hall : xs.all (fun c => decide (33 ≤ c.toNat) && decide (c.toNat ≤ 126)) = true := by
        rw [List.all_eq_true]
        intro c hc
        obtain ⟨i, hi, rfl⟩ := List.getElem_of_mem hc
        have := hr.out i hi (by omega)
        simp; omega
      have Hall := hide hall
      clear hall
      by_cases hne : xs = []
      · have Hne := hide hne
        have hq : (xs == []) = true := by rw [hne]; rfl
        go_wp2
        go_ret
        exact ⟨rfl, rfl⟩
      · go_wp2
        go_ret
        refine ⟨?_, rfl⟩
        have e : nameOk xs = (!xs.isEmpty && decide ((xs.length : Int) ≤ 16)) := by
          unfold nameOk
          rw [Hall.out, Bool.true_and]
          congr 1
          · cases xs <;> simp
          · rw [decide_eq_decide]; omega
        rw [e]; rfl

theorem rtrim_padTo (xs : List UInt8) (h : nameOk xs = true) : rtrim 32 (padTo 16 xs) = xs := by
  unfold nameOk at h
  simp only [Bool.and_eq_true, decide_eq_true_eq, List.all_eq_true] at h
  obtain ⟨hall, hne, _⟩ := h
  unfold rtrim padTo
  rw [List.reverse_append, List.reverse_replicate]
  have h1 : ∀ (n : Nat) (l : List UInt8), (List.replicate n (32 : UInt8) ++ l).dropWhile (· == 32) = l.dropWhile (· == 32) := by
    intro n l
    induction n with
    | zero => simp
    | succ n ih => simp [List.replicate_succ, ih]
  rw [h1]
  have h2 : xs.reverse.dropWhile (· == 32) = xs.reverse := by
    cases hx : xs.reverse with
    | nil => rfl
    | cons c l =>
      have hc : c ∈ xs := by
        have : c ∈ xs.reverse := by rw [hx]; simp
        simpa using this
      have := (hall c hc).1
      have hn : (c == 32) = false := by
        rw [beq_eq_false_iff_ne]; rintro rfl; simp at this
      simp [hn]
  rw [h2, List.reverse_reverse]

theorem toList_mk (xs : List UInt8) : (ByteArray.mk xs.toArray).toList = xs := by rw [ByteArray.toList_eq]

end Go.Proofs.YtgdghaijjhbegaaDoor
