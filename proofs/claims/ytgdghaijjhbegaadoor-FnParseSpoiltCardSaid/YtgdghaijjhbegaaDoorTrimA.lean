/- Walks of bytes.trimRightByte: bytes at the end of a slice that are the given byte are cut off. -/
import Derived.Test.YtgdghaijjhbegaaDoorProg
import Derived.WalkKit
import Derived.Below
import Derived.Lib.ConvBytes
import Derived.WalkLawsBesides
namespace Go.Proofs.YtgdghaijjhbegaaDoor
open Go.RowKit

theorem hide {p : Prop} (h : p) : Hid p := h
def sliceLen : Value → Nat | .slice _ n _ => n | _ => 0

/-- The bytes of a slice in memory. -/
def BytesAt (w : World) (b o : Nat) (xs : List UInt8) : Prop := ∀ i (h : i < xs.length), w.cell? ⟨b, o + i, none⟩ = some (.int .u8 (xs[i].toNat : Int))

/-- A text without the bytes c at its end. -/
def rtrim (c : UInt8) (xs : List UInt8) : List UInt8 := (xs.reverse.dropWhile (· == c)).reverse

theorem rtrim_snoc_eq (c : UInt8) (xs : List UInt8) : rtrim c (xs ++ [c]) = rtrim c xs := by simp [rtrim]
theorem rtrim_snoc_ne (c x : UInt8) (xs : List UInt8) (h : x ≠ c) : rtrim c (xs ++ [x]) = xs ++ [x] := by simp [rtrim, h]
theorem rtrim_nil (c : UInt8) : rtrim c [] = [] := rfl

theorem u8_eq_int {x y : UInt8} : ((x.toNat : Int) = (y.toNat : Int)) ↔ x = y := by
  constructor
  · intro h; exact UInt8.toNat_inj.1 (by omega)
  · rintro rfl; rfl

set_option maxHeartbeats 400000 in
theorem trimRightByte_any (b o cap : Nat) (c : UInt8) (xs : List UInt8) (w : World) (hw : BytesAt w b o xs) (hl : xs.length ≤ 9223372036854775807) (hcap : xs.length ≤ cap) :
    Calls Tryd.prog 79 #[.slice (some ⟨b, o, none⟩) xs.length cap, .int .u8 (c.toNat : Int)] w fun e w' =>
      e = .returned (.slice (some ⟨b, o, none⟩) (rtrim c xs).length cap) ∧ w = w' := by
  go_enter Tryd.func79, Tryd.ntmps79
  go_wp2
  go_loop [0] (fun s => ∃ m : Nat, m ≤ xs.length ∧ s = .slice (some ⟨b, o, none⟩) m cap ∧ Hid (rtrim c (xs.take m) = rtrim c xs)) (fun s => sliceLen s)
  case atStart => exact ⟨_, Nat.le_refl _, rfl, by rw [List.take_length]; exact rfl⟩
  case round =>
    obtain ⟨m, hm, rfl, hr⟩ := hrel
    rcases Nat.eq_zero_or_pos m with h0 | h0
    · subst h0
      go_wp2
      go_ret
      refine ⟨?_, rfl⟩
      have := hr.out
      rw [← this]; rfl
    · have hc : w.cell? ⟨b, o + (m - 1), none⟩ = some (.int .u8 ((xs[m - 1]'(by omega)).toNat : Int)) := hw (m - 1) (by omega)
      have ht : xs.take m = xs.take (m - 1) ++ [xs[m - 1]'(by omega)] := by
        have := List.take_succ_eq_append_getElem (l := xs) (i := m - 1) (by omega)
        rw [← this]; congr 1; omega
      have Ht := hide ht
      clear ht
      by_cases he : (xs[m - 1]'(by omega)) = c
      · have hb : ((((xs[m - 1]'(by omega)).toNat : Int) == (c.toNat : Int))) = true := by rw [he]; simp
        have He := hide he
        clear he
        go_wp2
        go_round
        case rel =>
          refine ⟨m - 1, by omega, ?_, ?_⟩
          · rfl
          · have e : rtrim c (xs.take m) = rtrim c (xs.take (m - 1)) := by rw [Ht.out, He.out, rtrim_snoc_eq]
            exact e ▸ hr.out
        case measure => simp [sliceLen]; omega
      · have hb : ((((xs[m - 1]'(by omega)).toNat : Int) == (c.toNat : Int))) = false := by
          rw [beq_eq_false_iff_ne]; intro e; exact he (u8_eq_int.1 e)
        clear he
        go_wp2
        go_ret
        refine ⟨?_, rfl⟩
        have e : rtrim c xs = xs.take m := by
          rw [← hr.out, Ht.out, rtrim_snoc_ne]
          intro e; rw [e] at hb; simp at hb
        rw [e, List.length_take, Nat.min_eq_left hm]
        rfl
end Go.Proofs.YtgdghaijjhbegaaDoor

/- Walks of trimSpace, TrimSpace, Trim, exactly16Bytes, Sixteen, heads: the small functions on names. -/
namespace Go.Proofs.YtgdghaijjhbegaaDoor
open Go.RowKit
set_option maxRecDepth 100000

theorem run_bytes_str (b o cap : Nat) (xs : List UInt8) (w : World) (hw : BytesAt w b o xs) :
    (convert 41 9 (.slice (some ⟨b, o, none⟩) xs.length cap)).run Tryd.prog w = .ok (.string ⟨xs.toArray⟩) w := by
  have h := run_convert_bytes_arg (P := Tryd.prog) w 41 5 Tryd.underlying41 Tryd.underlying5 b o xs.length cap (xs.map fun x => (x.toNat : Int)) (by simp)
    (fun i hi => by rw [hw i hi]; simp [List.getD, hi]) 9 Tryd.underlying9
  rw [h]
  have e : strOfNums (xs.map fun x => (x.toNat : Int)) = ⟨xs.toArray⟩ := by simp [strOfNums, Function.comp_def]
  rw [e]

theorem BytesAt.take {w : World} {b o : Nat} {xs : List UInt8} (h : BytesAt w b o xs) (n : Nat) : BytesAt w b o (xs.take n) := by
  intro i hi
  rw [List.length_take] at hi
  rw [h i (by omega)]; simp
theorem BytesAt.drop {w : World} {b o : Nat} {xs : List UInt8} (h : BytesAt w b o xs) (n : Nat) : BytesAt w b (o + n) (xs.drop n) := by
  intro i hi
  rw [List.length_drop] at hi
  have := h (n + i) (by omega)
  rw [Nat.add_assoc, this]; simp
theorem rtrim_prefix (c : UInt8) (xs : List UInt8) : ∃ n, rtrim c xs = xs.take n := by
  refine ⟨(rtrim c xs).length, ?_⟩
  have h : rtrim c xs <+: xs := by
    unfold rtrim
    have := List.dropWhile_suffix (l := xs.reverse) (· == c)
    rw [← List.reverse_prefix] at this
    simpa using this
  exact List.prefix_iff_eq_take.1 h
theorem BytesAt.rtrim {w : World} {b o : Nat} {xs : List UInt8} (h : BytesAt w b o xs) (c : UInt8) : BytesAt w b o (rtrim c xs) := by
  obtain ⟨n, hn⟩ := rtrim_prefix c xs
  rw [hn]; exact h.take n

set_option maxHeartbeats 400000 in
theorem TrimRight_any (b o cap : Nat) (xs : List UInt8) (w : World) (hw : BytesAt w b o xs) (hl : xs.length ≤ 9223372036854775807) (hcap : xs.length ≤ cap) :
    Calls Tryd.prog 56 #[.slice (some ⟨b, o, none⟩) xs.length cap, .string ⟨#[32]⟩] w fun e w' =>
      e = .returned (.slice (some ⟨b, o, none⟩) (rtrim 32 xs).length cap) ∧ w = w' := by
  rcases Nat.eq_zero_or_pos xs.length with h0 | h0
  · obtain rfl := List.eq_nil_of_length_eq_zero h0
    go_enter Tryd.func56, Tryd.ntmps56
    go_wp2
    go_ret
    exact ⟨rfl, rfl⟩
  · have hb : ((xs.length : Int) == 0) = false := beq_eq_false_iff_ne.2 (by omega)
    have hc : Calls Tryd.prog 79 #[.slice (some ⟨b, o, none⟩) xs.length cap, .int .u8 32] w fun e w' => e = .returned (.slice (some ⟨b, o, none⟩) (rtrim 32 xs).length cap) ∧ w = w' := trimRightByte_any b o cap 32 xs w hw hl hcap
    have Hc := hide hc
    clear hc
    go_enter Tryd.func56, Tryd.ntmps56
    go_wp2_with (go_at_call 79; refine (Hc.out).mono ?_; rintro e w' ⟨rfl, rfl⟩)
    go_ret
    exact ⟨rfl, rfl⟩

set_option maxHeartbeats 400000 in
theorem trimSpace_any (b o cap : Nat) (xs : List UInt8) (w : World) (hw : BytesAt w b o xs) (hl : xs.length ≤ 9223372036854775807) (hcap : xs.length ≤ cap) :
    Calls Tryd.prog 40 #[.slice (some ⟨b, o, none⟩) xs.length cap] w fun e w' =>
      e = .returned (.string ⟨(rtrim 32 xs).toArray⟩) ∧ w = w' := by
  have Hc := hide (TrimRight_any b o cap xs w hw hl hcap)
  have hv := run_bytes_str b o cap (rtrim 32 xs) w (hw.rtrim 32)
  go_enter Tryd.func40, Tryd.ntmps40
  go_wp2_with (go_at_call 56; refine (Hc.out).mono ?_; rintro e w' ⟨rfl, rfl⟩)
  go_ret
  exact ⟨rfl, rfl⟩

theorem bytesAt_bytesWorld (w : World) (e : TypeId) (xs : List UInt8) : BytesAt (Lib.bytesWorld w e ⟨xs.toArray⟩) w.heap.size 0 xs := by
  intro i hi
  have := Lib.bytesWorld_cell w e ⟨xs.toArray⟩ i (by simpa [ByteArray.size] using hi)
  rw [Nat.zero_add, this]
  simp [List.getD, hi]
theorem below_bytesWorld (w : World) (e : TypeId) (s : ByteArray) : Below w.heap.size w (Lib.bytesWorld w e s) :=
  ⟨by unfold Lib.bytesWorld World.freeze; split <;> rfl, by unfold Lib.bytesWorld World.freeze; split <;> rfl, by unfold Lib.bytesWorld World.freeze; split <;> rfl,
   by rw [Lib.bytesWorld_size]; omega, fun k hk => Lib.bytesWorld_at_old w e s k hk⟩

theorem mk_append (xs ys : List UInt8) : (ByteArray.mk xs.toArray) ++ (ByteArray.mk ys.toArray) = ⟨(xs ++ ys).toArray⟩ := by
  apply ByteArray.ext
  simp

theorem spaces_slice (n : Nat) (h : n ≤ 16) : (ByteArray.mk #[32, 32, 32, 32, 32, 32, 32, 32, 32, 32, 32, 32, 32, 32, 32, 32]).extract 0 n = ⟨(List.replicate n 32).toArray⟩ := by
  have : n = 0 ∨ n = 1 ∨ n = 2 ∨ n = 3 ∨ n = 4 ∨ n = 5 ∨ n = 6 ∨ n = 7 ∨ n = 8 ∨ n = 9 ∨ n = 10 ∨ n = 11 ∨ n = 12 ∨ n = 13 ∨ n = 14 ∨ n = 15 ∨ n = 16 := by omega
  rcases this with rfl | rfl | rfl | rfl | rfl | rfl | rfl | rfl | rfl | rfl | rfl | rfl | rfl | rfl | rfl | rfl | rfl <;> decide

/-- A text with blanks behind it up to n bytes. -/
def padTo (n : Nat) (xs : List UInt8) : List UInt8 := xs ++ List.replicate (n - xs.length) 32

set_option maxHeartbeats 400000 in
theorem exactly16_any (xs : List UInt8) (w : World) (hl : xs.length ≤ 16) :
    Calls Tryd.prog 41 #[.string ⟨xs.toArray⟩] w fun e w' =>
      e = .returned (.string ⟨(padTo 16 xs).toArray⟩) ∧ w = w' := by
  go_enter Tryd.func41, Tryd.ntmps41
  go_wp2
  go_loop [0] (fun s => s = .string ⟨xs.toArray⟩) (fun _ => 0)
  case atStart => rfl
  case round =>
    subst hrel
    go_wp2
    go_ret
    refine ⟨?_, rfl⟩
    rw [spaces_slice _ (by omega), mk_append]
    rfl

end Go.Proofs.YtgdghaijjhbegaaDoor
