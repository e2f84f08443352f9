/- Walks of the reference's small functions: Within, Padded, Digits, Sentinel, GoObject. -/
import Derived.Test.YtgdghaijjhbegaaDoorNameA
namespace Go.Proofs.YtgdghaijjhbegaaDoor
open Go.RowKit
set_option maxRecDepth 100000

def withinB (n lo hi : Int) : Bool := decide (lo ≤ n) && decide (n ≤ hi)

set_option maxHeartbeats 400000 in
theorem Within_any (n lo hi : Int) (w : World) :
    Calls Tryd.prog 20 #[.int .i64 n, .int .i64 lo, .int .i64 hi] w fun e w' => e = .returned (.bool (withinB n lo hi)) ∧ w = w' := by
  by_cases h1 : lo ≤ n
  · by_cases h2 : n ≤ hi
    · have hf := hide (show withinB n lo hi = true by simp [withinB, h1, h2])
      go_enter Tryd.func20, Tryd.ntmps20
      go_wp2
      go_ret
      exact ⟨by rw [hf.out]; rfl, rfl⟩
    · have hf := hide (show withinB n lo hi = false by simp [withinB, h2])
      have h2' : hi < n := by omega
      go_enter Tryd.func20, Tryd.ntmps20
      go_wp2
      go_ret
      exact ⟨by rw [hf.out]; rfl, rfl⟩
  · have hf := hide (show withinB n lo hi = false by simp [withinB, h1])
    have h1' : n < lo := by omega
    go_enter Tryd.func20, Tryd.ntmps20
    go_wp2
    go_ret
    exact ⟨by rw [hf.out]; rfl, rfl⟩

theorem padTo_succ (n : Nat) (xs : List UInt8) (h : xs.length < n) : padTo n (xs ++ [32]) = padTo n xs := by
  unfold padTo
  rw [List.length_append, List.append_assoc]
  congr 1
  rw [show n - xs.length = (n - (xs.length + 1)) + 1 from by omega, List.replicate_succ]
  rfl
theorem padTo_ge (n : Nat) (xs : List UInt8) (h : n ≤ xs.length) : padTo n xs = xs := by
  unfold padTo; rw [show n - xs.length = 0 from by omega]; simp

def strLen : Value → Nat | .string s => s.size | _ => 0

set_option maxHeartbeats 400000 in
theorem Padded_nat (xs : List UInt8) (n : Nat) (w : World) (hs : xs.length ≤ 4611686018427387904) (hn : n ≤ 4611686018427387904) :
    Calls Tryd.prog 22 #[.string ⟨xs.toArray⟩, .int .i64 n] w fun e w' => e = .returned (.string ⟨(padTo n xs).toArray⟩) ∧ w = w' := by
  go_enter Tryd.func22, Tryd.ntmps22
  go_wp2
  go_loop [0] (fun s => ∃ ys : List UInt8, s = .string ⟨ys.toArray⟩ ∧ ys.length ≤ 4611686018427387904 ∧ Hid (padTo n ys = padTo n xs)) (fun s => n - strLen s)
  case atStart => exact ⟨xs, rfl, hs, rfl⟩
  case round =>
    obtain ⟨ys, rfl, hy, hr⟩ := hrel
    by_cases hlt : ys.length < n
    · go_wp2
      go_round
      case rel =>
        refine ⟨ys ++ [32], ?_, by simp; omega, ?_⟩
        · exact congrArg Value.string (mk_append ys [32])
        · exact (padTo_succ n ys hlt).trans hr.out
      case measure => simp [strLen, ByteArray.size]; omega
    · go_wp2
      go_ret
      refine ⟨?_, rfl⟩
      have := hr.out
      rw [padTo_ge n ys (by omega)] at this
      rw [← this]; rfl

theorem Padded_any (xs : List UInt8) (n : Int) (w : World) (hs : xs.length ≤ 4611686018427387904) (h0 : 0 ≤ n) (hn : n ≤ 4611686018427387904) :
    Calls Tryd.prog 22 #[.string ⟨xs.toArray⟩, .int .i64 n] w fun e w' => e = .returned (.string ⟨(padTo n.toNat xs).toArray⟩) ∧ w = w' := by
  obtain ⟨m, rfl⟩ := Int.eq_ofNat_of_zero_le h0
  exact Padded_nat xs m w hs (by omega)

def sentinelB (xs : List UInt8) : Bool := xs == [112, 114, 101, 102, 101, 114, 108, 105, 110, 107, 101, 120, 116] || xs == [100, 121, 110, 105, 109, 112, 111, 114, 116, 102, 97, 105, 108]

set_option maxHeartbeats 400000 in
theorem Sentinel_any (xs : List UInt8) (w : World) :
    Calls Tryd.prog 42 #[.string ⟨xs.toArray⟩] w fun e w' => e = .returned (.bool (sentinelB xs)) ∧ w = w' := by
  go_enter Tryd.func42, Tryd.ntmps42
  go_wp2
  all_goals go_ret
  · rename_i h
    subst h
    exact ⟨rfl, rfl⟩
  · exact ⟨rfl, rfl⟩

def goObjB (xs : List UInt8) : Bool := decide (8 ≤ xs.length) && (xs.take 8 == [103, 111, 32, 111, 98, 106, 101, 99])

set_option maxHeartbeats 400000 in
theorem GoObject_any (xs : List UInt8) (w : World) (hs : xs.length ≤ 4611686018427387904) :
    Calls Tryd.prog 27 #[.string ⟨xs.toArray⟩] w fun e w' => e = .returned (.bool (goObjB xs)) ∧ w = w' := by
  by_cases h8 : 8 ≤ xs.length
  · have hq : (((ByteArray.mk xs.toArray).extract 0 8).toList) = xs.take 8 := by rw [extract_toList]; simp
    have hf := hide (show goObjB xs = (xs.take 8 == [103, 111, 32, 111, 98, 106, 101, 99]) by simp [goObjB, h8])
    go_enter Tryd.func27, Tryd.ntmps27
    go_wp2
    go_ret
    exact ⟨by rw [hf.out]; rfl, rfl⟩
  · have hf := hide (show goObjB xs = false by simp [goObjB]; intro h; omega)
    have h8' : xs.length < 8 := by omega
    go_enter Tryd.func27, Tryd.ntmps27
    go_wp2
    go_ret
    exact ⟨by rw [hf.out]; rfl, rfl⟩

/-- A number's digits to a base. -/
def dch (d : Nat) : UInt8 := UInt8.ofNat (48 + d)
theorem dch_toNat (d : Nat) (h : d < 200) : (dch d).toNat = 48 + d := by simp [dch]; omega
def digits (base : Nat) (n : Nat) : List UInt8 :=
  if n < base ∨ base ≤ 1 then [dch n] else digits base (n / base) ++ [dch (n % base)]
termination_by n
decreasing_by exact Nat.div_lt_self (by omega) (by omega)

theorem run_one_byte (W : World) (x : Int) (c : UInt8) (hx : x = (c.toNat : Int)) :
    (convert 41 9 (.slice (some ⟨W.heap.size, 0, none⟩) 1 1)).run Tryd.prog (W.alloc (.cells #[.int .u8 x] 5)) = .ok (.string ⟨#[c]⟩) (W.alloc (.cells #[.int .u8 x] 5)) := by
  have h := run_bytes_str W.heap.size 0 1 [c] (W.alloc (.cells #[.int .u8 x] 5)) (by
    intro i hi
    have : i = 0 := by simp at hi; omega
    subst this
    simp [World.cell?_alloc_new, hx])
  exact h

set_option maxHeartbeats 400000 in
theorem Digits10_any (n : Nat) (w : World) (hn : n ≤ 4611686018427387904) :
    Calls Tryd.prog 23 #[.int .i64 n, .int .i64 10] w fun e w' => e = .returned (.string ⟨(digits 10 n).toArray⟩) ∧ Below w.heap.size w w' := by
  have hv := fun W => run_one_byte W (48 + (n : Int) % 10) (dch (n % 10)) (by rw [dch_toNat _ (by omega)]; omega)
  go_enter Tryd.func23, Tryd.ntmps23
  go_wp2
  go_loopw [0, 5] (fun s t wr => ∃ (m : Nat) (ys : List UInt8), s = .int .i64 m ∧ t = .string ⟨ys.toArray⟩ ∧ m ≤ n ∧ ys.length + m ≤ n + 1 ∧ Hid (digits 10 n = (if m = 0 then [] else digits 10 m) ++ ys) ∧ Below w.heap.size w wr) (fun s _ _ => (intOf s).toNat)
  case atStart =>
    refine ⟨n / 10, [dch (n % 10)], by go_num, rfl, by omega, by simp; omega, ?_, (Below.refl _ _).alloc (Nat.le_refl _) _⟩
    show digits 10 n = _
    rw [digits]
    by_cases h : n < 10
    · rw [if_pos (by omega), if_pos (by omega), Nat.mod_eq_of_lt h]; rfl
    · rw [if_neg (by omega), if_neg (by omega)]
  case round =>
    obtain ⟨m, ys, rfl, rfl, hm, hl, hd, hb⟩ := hrel
    have hv2 := fun W => run_one_byte W (48 + (m : Int) % 10) (dch (m % 10)) (by rw [dch_toNat _ (by omega)]; omega)
    by_cases h0 : 0 < m
    · go_wp2
      go_roundw
      case rel =>
        refine ⟨m / 10, dch (m % 10) :: ys, by go_num, congrArg Value.string (mk_append [dch (m % 10)] ys), by omega, by simp; omega, ?_, hb.alloc hb.size _⟩
        show digits 10 n = _
        rw [hd.out, if_neg (by omega)]
        have e : digits 10 m = (if m / 10 = 0 then [] else digits 10 (m / 10)) ++ [dch (m % 10)] := by
          rw [digits]
          by_cases h : m < 10
          · rw [if_pos (by omega), if_pos (by omega), Nat.mod_eq_of_lt h]; rfl
          · rw [if_neg (by omega), if_neg (by omega)]
        rw [e]; simp
      case measure => simp [intOf]; omega
    · go_wp2
      go_ret
      refine ⟨?_, hb⟩
      have e := hd.out
      rw [if_pos (by omega)] at e
      rw [e]; rfl

set_option maxHeartbeats 400000 in
theorem Digits8_any (n : Nat) (w : World) (hn : n ≤ 4611686018427387904) :
    Calls Tryd.prog 23 #[.int .i64 n, .int .i64 8] w fun e w' => e = .returned (.string ⟨(digits 8 n).toArray⟩) ∧ Below w.heap.size w w' := by
  have hv := fun W => run_one_byte W (48 + (n : Int) % 8) (dch (n % 8)) (by rw [dch_toNat _ (by omega)]; omega)
  go_enter Tryd.func23, Tryd.ntmps23
  go_wp2
  go_loopw [0, 5] (fun s t wr => ∃ (m : Nat) (ys : List UInt8), s = .int .i64 m ∧ t = .string ⟨ys.toArray⟩ ∧ m ≤ n ∧ ys.length + m ≤ n + 1 ∧ Hid (digits 8 n = (if m = 0 then [] else digits 8 m) ++ ys) ∧ Below w.heap.size w wr) (fun s _ _ => (intOf s).toNat)
  case atStart =>
    refine ⟨n / 8, [dch (n % 8)], by go_num, rfl, by omega, by simp; omega, ?_, (Below.refl _ _).alloc (Nat.le_refl _) _⟩
    show digits 8 n = _
    rw [digits]
    by_cases h : n < 8
    · rw [if_pos (by omega), if_pos (by omega), Nat.mod_eq_of_lt h]; rfl
    · rw [if_neg (by omega), if_neg (by omega)]
  case round =>
    obtain ⟨m, ys, rfl, rfl, hm, hl, hd, hb⟩ := hrel
    have hv2 := fun W => run_one_byte W (48 + (m : Int) % 8) (dch (m % 8)) (by rw [dch_toNat _ (by omega)]; omega)
    by_cases h0 : 0 < m
    · go_wp2
      go_roundw
      case rel =>
        refine ⟨m / 8, dch (m % 8) :: ys, by go_num, congrArg Value.string (mk_append [dch (m % 8)] ys), by omega, by simp; omega, ?_, hb.alloc hb.size _⟩
        show digits 8 n = _
        rw [hd.out, if_neg (by omega)]
        have e : digits 8 m = (if m / 8 = 0 then [] else digits 8 (m / 8)) ++ [dch (m % 8)] := by
          rw [digits]
          by_cases h : m < 8
          · rw [if_pos (by omega), if_pos (by omega), Nat.mod_eq_of_lt h]; rfl
          · rw [if_neg (by omega), if_neg (by omega)]
        rw [e]; simp
      case measure => simp [intOf]; omega
    · go_wp2
      go_ret
      refine ⟨?_, hb⟩
      have e := hd.out
      rw [if_pos (by omega)] at e
      rw [e]; rfl

end Go.Proofs.YtgdghaijjhbegaaDoor
