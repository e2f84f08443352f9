/- The walks of strconv.ParseInt at octal digits. -/
import Derived.Test.YtgdghaijjhbegaaDoorFieldsA
import Derived.Test.YtgdghaijjhbegaaDoorShelfP
import Derived.BigGuard
import Derived.Lib.Walk
import Derived.Laws.Closers25
namespace Go.Proofs.YtgdghaijjhbegaaDoor
open Go.RowKit
set_option maxRecDepth 100000

set_option maxHeartbeats 4000000 in
theorem ParseUint_oct (xs : List UInt8) (w : World) (hne : xs ≠ []) (hl : xs.length ≤ 100) (ho : isOct xs) (hv : octV 0 xs ≤ 4294967295) :
    Calls Tryd.prog 111 #[.string ⟨xs.toArray⟩, .int .i64 8, .int .i64 32] w
      fun e w' => e = .returned (.tuple #[.int .u64 (octV 0 xs : Nat), .nilIface]) ∧ Below w.heap.size w w' := by
  have hemp : xs.isEmpty = false := by cases xs <;> simp_all
  have hcv := Lib.run_convert_string_bytes (P := Tryd.prog) w 9 41 5 ⟨xs.toArray⟩ Tryd.underlying9 Tryd.underlying41 Tryd.underlying5
  have hsz : (ByteArray.mk xs.toArray).size = xs.length := by simp [ByteArray.size]
  rw [hsz] at hcv
  have hb := below_bytesWorld w 5 ⟨xs.toArray⟩
  have hB := bytesAt_bytesWorld w 5 xs
  generalize Lib.bytesWorld w 5 ⟨xs.toArray⟩ = W1 at *
  generalize grownCap w xs.length 0 5 = cap at *
  have hmv : IntKind.u64.wrap (IntKind.u64.wrap 4294967296 - 1) = 4294967295 := by
    rw [IntKind.wrap_u64, IntKind.wrap_u64]
    decide
  have Hv := hide hv
  have Ho := hide ho
  have Hne := hide hne
  clear hv ho hne hsz
  go_enter Tryd.func111, Tryd.ntmps111
  go_wp2
  go_loop [12, 13, 101] (fun vu vn vi => ∃ (k : Nat) (a : Int), vu = .bool false ∧ vn = .int .u64 a ∧ vi = .int .i64 k ∧ k ≤ xs.length ∧ Hid (a = ((octV 0 (xs.take k) : Nat) : Int)))
    (fun _ _ vi => xs.length - (intOf vi).toNat)
  case atStart => exact ⟨0, 0, rfl, rfl, rfl, by omega, rfl⟩
  case round =>
    obtain ⟨k, a, rfl, rfl, rfl, hk, hh⟩ := hrel
    have hle : octV 0 (xs.take k) ≤ 4294967295 := Nat.le_trans (octV_take_le xs k) Hv.out
    have ha := hh.out
    have a0 : 0 ≤ a := by omega
    have a1 : a ≤ 4294967295 := by omega
    clear ha hle
    by_cases hkn : k < xs.length
    · have hc : W1.cell? ⟨w.heap.size, k, none⟩ = some (.int .u8 (xs[k].toNat : Int)) := by have := hB k hkn; rw [Nat.zero_add] at this; exact this
      obtain ⟨hd0, hd1⟩ := Ho.out k hkn
      have hs : octV 0 (xs.take (k + 1)) = octV 0 (xs.take k) * 8 + (xs[k].toNat - 48) := by rw [List.take_succ_eq_append_getElem hkn, octV_snoc]
      have hle : octV 0 (xs.take (k + 1)) ≤ 4294967295 := Nat.le_trans (octV_take_le xs (k + 1)) Hv.out
      have HN : Hid (a * 8 + ((xs[k].toNat : Int) - 48) = ((octV 0 (xs.take (k + 1)) : Nat) : Int)) := by
        show _ = _
        have := hh.out; omega
      have iov : a * 8 + ((xs[k].toNat : Int) - 48) ≤ 4294967295 := by have := HN.out; omega
      have icut : a < 2305843009213693952 := by omega
      clear hs hle hh hB
      generalize xs[k] = c at *
      go_wp2
      go_round
      case rel => exact ⟨k + 1, _, rfl, rfl, by go_num, by omega, HN⟩
      case measure => simp [intOf]; omega
    · have hkk : k = xs.length := by omega
      subst hkk
      have hfin : a = ((octV 0 xs : Nat) : Int) := by have := hh.out; rw [List.take_length] at this; exact this
      clear hh hB
      subst hfin
      go_wp2
      go_ret2
      exact ⟨rfl, hb⟩

set_option maxHeartbeats 1000000 in
theorem ParseInt_oct (xs : List UInt8) (w : World) (hne : xs ≠ []) (hl : xs.length ≤ 100) (ho : isOct xs) (hv : octV 0 xs < 2147483648) :
    Calls Tryd.prog 94 #[.string ⟨xs.toArray⟩, .int .i64 8, .int .i64 32] w
      fun e w' => e = .returned (.tuple #[.int .i64 (octV 0 xs : Nat), .nilIface]) ∧ Below w.heap.size w w' := by
  have hemp : xs.isEmpty = false := by cases xs <;> simp_all
  have hU := hide (ParseUint_oct xs w hne hl ho (by omega))
  have hpos : 0 < xs.length := by cases xs <;> simp_all
  have hsz : 0 < (ByteArray.mk xs.toArray).size := by simpa [ByteArray.size] using hpos
  have h0 := ho 0 hpos
  have hs0 : (ByteArray.mk xs.toArray)[0]'hsz = xs[0] := rfl
  have hd1 : (((ByteArray.mk xs.toArray)[0]'hsz).toNat : Int) ≠ 43 := by rw [hs0]; omega
  have hd2 : (((ByteArray.mk xs.toArray)[0]'hsz).toNat : Int) ≠ 45 := by rw [hs0]; omega
  have b1 : ((((ByteArray.mk xs.toArray)[0]'hsz).toNat : Int) == 43) = false := by simpa using hd1
  have b2 : ((((ByteArray.mk xs.toArray)[0]'hsz).toNat : Int) == 45) = false := by simpa using hd2
  have v0 : 0 ≤ ((octV 0 xs : Nat) : Int) := by omega
  have v1 : ((octV 0 xs : Nat) : Int) < 2147483648 := by omega
  clear hne ho hv hs0 h0
  generalize hvv : ((octV 0 xs : Nat) : Int) = v at *
  clear hvv
  go_enter Tryd.func94, Tryd.ntmps94
  go_wp2_with (go_at_call 111; (with_reducible refine (hU.out).mono ?_); rintro e w1 ⟨rfl, hb1⟩)
  go_ret2
  exact ⟨rfl, hb1⟩

set_option maxHeartbeats 1000000 in
theorem ParseInt8_any (n : Nat) (w : World) (hn : n ≤ 16777215) :
    Calls Tryd.prog 73 #[.string ⟨(digits 8 n).toArray⟩, .int .i64 8, .int .i64 32] w
      fun e w' => e = .returned (.tuple #[.int .i64 n, .nilIface]) ∧ Below w.heap.size w w' := by
  have hl := digits_len_le 8 (by omega) 7 n (by omega)
  have hp := digits_len_pos 8 n
  have hU := hide (ParseInt_oct (digits 8 n) w (by intro e; rw [e] at hp; simp at hp) (by omega) (isOct_digits n) (by rw [octV_digits]; omega))
  rw [octV_digits] at hU
  generalize digits 8 n = xs at *
  go_enter Tryd.func73, Tryd.ntmps73
  go_wp2_with (go_at_call 94; (with_reducible refine (hU.out).mono ?_); rintro e w1 ⟨rfl, hb1⟩)
  go_ret2
  exact ⟨rfl, hb1⟩

/-- strconv.ParseInt at decimal digits. -/
theorem ParseInt64_any (n : Nat) (w : World) (hn : n < 1000000000000000) :
    Calls Tryd.prog 73 #[.string ⟨(digits 10 n).toArray⟩, .int .i64 10, .int .i64 64] w
      fun e w' => e = .returned (.tuple #[.int .i64 n, .nilIface]) ∧ Below w.heap.size w w' := by
  have hl := digits_len_le 10 (by omega) 14 n (by omega)
  refine (Tryd.strconv_ParseInt_10_at64_ok ⟨(digits 10 n).toArray⟩ (by simp [ByteArray.size]; omega) n (by simpa using parseInt64_digits n hn) w).mono ?_
  rintro e w' ⟨rfl, hw⟩
  refine ⟨rfl, ?_⟩
  rcases hw with rfl | ⟨t, rfl⟩
  · exact Below.refl _ _
  · exact below_bytesWorld w _ t
theorem ParseInt32_any (n : Nat) (w : World) (hn : n < 1000000000) :
    Calls Tryd.prog 73 #[.string ⟨(digits 10 n).toArray⟩, .int .i64 10, .int .i64 32] w
      fun e w' => e = .returned (.tuple #[.int .i64 n, .nilIface]) ∧ Below w.heap.size w w' := by
  have hl := digits_len_le 10 (by omega) 14 n (by omega)
  refine (Tryd.strconv_ParseInt_10_at32_ok ⟨(digits 10 n).toArray⟩ (by simp [ByteArray.size]; omega) n (by simpa using parseInt32_digits n hn) w).mono ?_
  rintro e w' ⟨rfl, hw⟩
  refine ⟨rfl, ?_⟩
  rcases hw with rfl | ⟨t, rfl⟩
  · exact Below.refl _ _
  · exact below_bytesWorld w _ t
end Go.Proofs.YtgdghaijjhbegaaDoor
