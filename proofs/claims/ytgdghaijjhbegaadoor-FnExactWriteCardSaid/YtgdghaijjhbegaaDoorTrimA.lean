/- Walks of bytes.trimRightByte: bytes at the end of a slice that are the given byte are cut off. -/
import Derived.Test.YtgdghaijjhbegaaDoorProg
import Derived.WalkKit
import Derived.Below
namespace Go.Proofs.YtgdghaijjhbegaaDoor
open Go.RowKit

theorem hide {p : Prop} (h : p) : Hid p := h
def sliceLen : Value → Nat | .slice _ n _ => n | _ => 0

/-- The bytes of a slice in memory. -/
def BytesAt (w : World) (b o : Nat) (xs : List UInt8) : Prop := ∀ i (h : i < xs.length), w.cell? ⟨b, o + i, none⟩ = some (.int .u8 (xs[i].toNat : Int))

/-- A text without the bytes c at its end. -/
def rtrim (c : UInt8) (xs : List UInt8) : List UInt8 := (xs.reverse.dropWhile (· == c)).reverse

theorem rtrim_snoc_eq (c : UInt8) (xs : List UInt8) : rtrim c (xs ++ [c]) = rtrim c xs := by simp [rtrim]
theorem rtrim_snoc_ne (c x : UInt8) (xs : List UInt8) (h : x ≠ c) : rtrim c (xs ++ [x]) = xs ++ [x] := by simp [rtrim, h]
theorem rtrim_nil (c : UInt8) : rtrim c [] = [] := rfl

theorem u8_eq_int {x y : UInt8} : ((x.toNat : Int) = (y.toNat : Int)) ↔ x = y := by
  constructor
  · intro h; exact UInt8.toNat_inj.1 (by omega)
  · rintro rfl; rfl

set_option maxHeartbeats 400000 in
theorem trimRightByte_any (b o cap : Nat) (c : UInt8) (xs : List UInt8) (w : World) (hw : BytesAt w b o xs) (hl : xs.length ≤ 9223372036854775807) (hcap : xs.length ≤ cap) :
    Calls Tryd.prog 79 #[.slice (some ⟨b, o, none⟩) xs.length cap, .int .u8 (c.toNat : Int)] w fun e w' =>
      e = .returned (.slice (some ⟨b, o, none⟩) (rtrim c xs).length cap) ∧ w = w' := by
  go_enter Tryd.func79, Tryd.ntmps79
  go_wp2
  go_loop [0] (fun s => ∃ m : Nat, m ≤ xs.length ∧ s = .slice (some ⟨b, o, none⟩) m cap ∧ Hid (rtrim c (xs.take m) = rtrim c xs)) (fun s => sliceLen s)
  case atStart => exact ⟨_, Nat.le_refl _, rfl, by rw [List.take_length]; exact rfl⟩
  case round =>
    obtain ⟨m, hm, rfl, hr⟩ := hrel
    rcases Nat.eq_zero_or_pos m with h0 | h0
    · subst h0
      go_wp2
      go_ret
      refine ⟨?_, rfl⟩
      have := hr.out
      rw [← this]; rfl
    · have hc : w.cell? ⟨b, o + (m - 1), none⟩ = some (.int .u8 ((xs[m - 1]'(by omega)).toNat : Int)) := hw (m - 1) (by omega)
      have ht : xs.take m = xs.take (m - 1) ++ [xs[m - 1]'(by omega)] := by
        have := List.take_succ_eq_append_getElem (l := xs) (i := m - 1) (by omega)
        rw [← this]; congr 1; omega
      have Ht := hide ht
      clear ht
      by_cases he : (xs[m - 1]'(by omega)) = c
      · have hb : ((((xs[m - 1]'(by omega)).toNat : Int) == (c.toNat : Int))) = true := by rw [he]; simp
        have He := hide he
        clear he
        go_wp2
        go_round
        case rel =>
          refine ⟨m - 1, by omega, ?_, ?_⟩
          · rfl
          · have e : rtrim c (xs.take m) = rtrim c (xs.take (m - 1)) := by rw [Ht.out, He.out, rtrim_snoc_eq]
            exact e ▸ hr.out
        case measure => simp [sliceLen]; omega
      · have hb : ((((xs[m - 1]'(by omega)).toNat : Int) == (c.toNat : Int))) = false := by
          rw [beq_eq_false_iff_ne]; intro e; exact he (u8_eq_int.1 e)
        clear he
        go_wp2
        go_ret
        refine ⟨?_, rfl⟩
        have e : rtrim c xs = xs.take m := by
          rw [← hr.out, Ht.out, rtrim_snoc_ne]
          intro e; rw [e] at hb; simp at hb
        rw [e, List.length_take, Nat.min_eq_left hm]
        rfl
end Go.Proofs.YtgdghaijjhbegaaDoor
