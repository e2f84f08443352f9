/- Walks of strconv.FormatUint to base 8: TrailingZeros at 8, formatBits. -/
import Derived.Test.YtgdghaijjhbegaaDoorSpecD
namespace Go.Proofs.YtgdghaijjhbegaaDoor
open Go.RowKit
set_option maxRecDepth 100000

set_option maxHeartbeats 400000 in
theorem TrailingZeros64_8 (w : World) (hc : w.cell? ⟨21, 7, none⟩ = some (.int .u8 3)) :
    Calls Tryd.prog 132 #[.int .u64 8] w fun e w' => e = .returned (.int .i64 3) ∧ w = w' := by
  have hz : IntKind.u64.wrap (bits BinOp.and IntKind.u64 8 (IntKind.u64.wrap (-8)) * 285870213051353865) / 288230376151711744 = 7 := by decide +kernel
  go_enter Tryd.func132, Tryd.ntmps132
  go_wp2
  go_ret
  exact ⟨rfl, rfl⟩
set_option maxHeartbeats 400000 in
theorem TrailingZeros_8 (w : World) (hc : w.cell? ⟨21, 7, none⟩ = some (.int .u8 3)) :
    Calls Tryd.prog 123 #[.int .u64 8] w fun e w' => e = .returned (.int .i64 3) ∧ w = w' := by
  go_enter Tryd.func123, Tryd.ntmps123
  go_wp2_with (go_at_call 132; refine (TrailingZeros64_8 _ hc).mono ?_; rintro e w' ⟨rfl, rfl⟩)
  go_ret
  exact ⟨rfl, rfl⟩
theorem isPow2_8 (w : World) : Calls Tryd.prog 122 #[.int .i64 8] w fun e w' => e = .returned (.bool true) ∧ w = w' := by
  have hz : (bits BinOp.and IntKind.i64 8 7 == 0) = true := by decide +kernel
  go_enter Tryd.func122, Tryd.ntmps122
  go_wp2
  go_ret
  exact ⟨rfl, rfl⟩

theorem and7 (m : Nat) (hm : m < 18446744073709551616) : bits BinOp.and IntKind.u64 (m : Int) 7 = ((m % 8 : Nat) : Int) := by
  have e : (BitVec.ofInt 64 (m : Int)).toNat = m := by
    rw [BitVec.ofInt_natCast, BitVec.toNat_ofNat]; exact Nat.mod_eq_of_lt hm
  have h7 : (BitVec.ofInt 64 (7 : Int)).toNat = 7 := by decide
  show IntKind.u64.wrap ((BitVec.ofInt 64 (m : Int) &&& BitVec.ofInt 64 (7 : Int)).toNat : Int) = _
  rw [BitVec.toNat_and, e, h7, show (7 : Nat) = 2 ^ 3 - 1 from rfl, Nat.and_two_pow_sub_one_eq_mod]
  have : m % 2 ^ 3 < 8 := Nat.mod_lt _ (by decide)
  simp only [IntKind.wrap, IntKind.bits, IntKind.signed]
  simp
  omega

abbrev digS : ByteArray := { data := #[48, 49, 50, 51, 52, 53, 54, 55, 56, 57, 97, 98, 99, 100, 101, 102, 103, 104, 105, 106, 107, 108, 109, 110, 111, 112, 113, 114, 115, 116, 117, 118, 119, 120, 121, 122] }
theorem digS_at (j : Nat) (h : j < 10) : (digS[j]'(by simp [ByteArray.size]; omega)) = dch j := by
  have : j = 0 ∨ j = 1 ∨ j = 2 ∨ j = 3 ∨ j = 4 ∨ j = 5 ∨ j = 6 ∨ j = 7 ∨ j = 8 ∨ j = 9 := by omega
  rcases this with rfl | rfl | rfl | rfl | rfl | rfl | rfl | rfl | rfl | rfl <;> rfl

theorem heap_setCell_at (w : World) (g i : Nat) (cs : Array Value) (t : TypeId) (fz : Nat × Nat) (v : Value) (h : w.heap[g]? = some (.cells cs t fz)) :
    (w.setCell ⟨g, i, none⟩ v).heap[g]? = some (.cells (cs.setIfInBounds i v) t fz) := by
  simp [World.setCell, Array.getElem?_modify, h]
theorem cell_of_heap (w : World) (g i : Nat) (cs : Array Value) (t : TypeId) (fz : Nat × Nat) (h : w.heap[g]? = some (.cells cs t fz)) : w.cell? ⟨g, i, none⟩ = cs[i]? := by
  simp [World.cell?, h]
theorem frozen_of_heap (w : World) (g i : Nat) (cs : Array Value) (t : TypeId) (h : w.heap[g]? = some (.cells cs t (0, 0))) : w.frozen? ⟨g, i, none⟩ = false := by
  simp [World.frozen?, h]
theorem bytesAt_of_drop (w : World) (g i : Nat) (cs : Array Value) (t : TypeId) (fz : Nat × Nat) (ys : List UInt8) (h : w.heap[g]? = some (.cells cs t fz)) (hd : cs.toList.drop i = ys.map (fun c => Value.int .u8 (c.toNat : Int))) : BytesAt w g i ys := by
  intro j hj
  rw [cell_of_heap w g (i + j) cs t fz h]
  have : (cs.toList.drop i)[j]? = some (.int .u8 (ys[j].toNat : Int)) := by rw [hd]; simp [hj]
  rw [List.getElem?_drop] at this
  simpa using this
theorem drop_set (cs : Array Value) (i : Nat) (v : Value) (vs : List Value) (hi : 1 ≤ i) (hs : i ≤ cs.size) (hd : cs.toList.drop i = vs) : (cs.setIfInBounds (i - 1) v).toList.drop (i - 1) = v :: vs := by
  have h1 : i - 1 < cs.size := by omega
  apply List.ext_getElem?
  intro j
  rw [List.getElem?_drop]
  cases j with
  | zero => simp [h1]
  | succ j =>
    rw [List.getElem?_cons_succ, ← hd, List.getElem?_drop, show i - 1 + (j + 1) = i + j from by omega]
    simp [show i - 1 ≠ i + j from by omega]
theorem arr65 (W : World) (g j : Nat) (x : Int) (hx : x = j) (hj : j < 65) : (Instr.sliceAt 189 (.pointer (some ⟨g, 0, none⟩)) (some (.int .i64 x)) none none).run Tryd.prog W = .ok (.slice (some ⟨g, j, none⟩) (65 - j) (65 - j)) W := by
  subst hx
  have hn : Tryd.prog.arrayLen 189 = 65 := by kernel_rfl
  have h := run_sliceAt_array_l (P := Tryd.prog) W 189 ⟨g, 0, none⟩ Tryd.underlying189 .i64 j (by omega) (by rw [hn]; omega)
  have hs : (sizeOf (Tryd.prog.elem 189)).run Tryd.prog W = .ok 1 W := by kernel_rfl
  rw [h, hs, hn]
  simp only [Result.andThen, slicedAt, Int.toNat_natCast]
  rw [if_neg (by omega)]
  unfold Addr.add
  by_cases h0 : j = 0
  · subst h0; rfl
  · simp [h0]
theorem digits8_step (m : Nat) (h : 8 ≤ m) : digits 8 m = digits 8 (m / 8) ++ [dch (m % 8)] := by rw [digits, if_neg (by omega)]
theorem digits8_last (m : Nat) (h : m < 8) : digits 8 m = [dch m] := by rw [digits, if_pos (by omega)]

set_option maxHeartbeats 1000000 in
theorem formatBits_8 (n : Nat) (hn : n ≤ 16777215) (w : World) (hc : w.cell? ⟨21, 7, none⟩ = some (.int .u8 3)) :
    Calls Tryd.prog 108 #[.slice none 0 0, .int .u64 n, .int .i64 8, .bool false, .bool false] w fun e w' => e = .returned (.tuple #[.slice none 0 0, .string ⟨(digits 8 n).toArray⟩]) ∧ Below w.heap.size w w' := by
  have hB := World.block_lt_of_cell? w _ hc
  go_enter Tryd.func108, Tryd.ntmps108
  go_wp2_with (first | (go_at_call 122; refine (isPow2_8 _).mono ?_; rintro e w' ⟨rfl, rfl⟩) | (go_at_call 123; refine (TrailingZeros_8 _ ?c1).mono ?_; (case c1 => rw [World.cell?_alloc_lt _ _ _ hB]; exact hc); rintro e w' ⟨rfl, rfl⟩))
  go_loopw [13, 1] (fun s t wr => ∃ (i m k : Nat) (cs : Array Value) (ys : List UInt8), s = .int .i64 i ∧ t = .int .u64 m ∧ wr.heap[w.heap.size]? = some (.cells cs 189 (0, 0)) ∧ cs.size = 65 ∧ cs.toList.drop i = ys.map (fun c => Value.int .u8 (c.toNat : Int))
      ∧ Hid (digits 8 n = digits 8 m ++ ys) ∧ m < 8 ^ k ∧ m ≤ 16777215 ∧ 57 + k ≤ i ∧ 1 ≤ k ∧ i ≤ 65 ∧ Below w.heap.size w wr) (fun _ t _ => (intOf t).toNat)
  case atStart =>
    refine ⟨65, n, 8, Tryd.zeroCells189, [], rfl, rfl, heap_alloc_new w _, by kernel_rfl, by kernel_rfl, by show digits 8 n = _; simp, by omega, hn, by omega, by omega, by omega, (Below.refl _ _).alloc (Nat.le_refl _) _⟩
  case round =>
    obtain ⟨i, m, k, cs, ys, rfl, rfl, hg, hsz, hdrop, hd, hmk, hm, hik, hk1, hi, hb⟩ := hrel
    have hcell : wr.cell? ⟨w.heap.size, i - 1, none⟩ = some (cs[i - 1]'(by omega)) := by
      rw [cell_of_heap wr _ _ cs _ _ hg]; exact Array.getElem?_eq_getElem (by omega)
    have hfz : wr.frozen? ⟨w.heap.size, i - 1, none⟩ = false := frozen_of_heap wr _ _ cs _ hg
    have hi1 : (57 : Int) ≤ i - 1 := by omega
    generalize (cs[i - 1]'(by omega)) = old at hcell
    by_cases h8 : 8 ≤ m
    · have hand := and7 m (by omega)
      have hdig := digS_at (m % 8) (by omega)
      have hk2 : 2 ≤ k := by
        rcases Nat.lt_or_ge k 2 with h | h
        · have : k = 1 := by omega
          subst this; simp at hmk; omega
        · exact h
      have hnew : m / 8 < 8 ^ (k - 1) := by
        rw [Nat.div_lt_iff_lt_mul (by omega), ← Nat.pow_succ, show (k - 1).succ = k from by omega]; exact hmk
      have hset := hide (heap_setCell_at wr w.heap.size (i - 1) cs 189 (0, 0) (.int .u8 ((dch (m % 8)).toNat : Int)) hg)
      have hdr := hide (drop_set cs i (.int .u8 ((dch (m % 8)).toNat : Int)) _ (by omega) (by omega) hdrop)
      have hmod : ((m % 8 : Nat) : Int) < 10 := by omega
      clear hdrop hg
      go_wp2
      go_roundw
      case rel =>
        refine ⟨i - 1, m / 8, k - 1, _, dch (m % 8) :: ys, by go_num, by go_num, hset.out, by simpa using hsz, by rw [hdr.out]; rfl, ?_, hnew, by omega, by omega, by omega, by omega, hb.setCell (Nat.le_refl _) _⟩
        show digits 8 n = _
        rw [hd.out, digits8_step m h8]; simp
      case measure => simp [intOf]; omega
    · have hdig := digS_at m (by omega)
      have hset := heap_setCell_at wr w.heap.size (i - 1) cs 189 (0, 0) (.int .u8 ((dch m).toNat : Int)) hg
      have hdr := drop_set cs i (.int .u8 ((dch m).toNat : Int)) _ (by omega) (by omega) hdrop
      have hby := bytesAt_of_drop _ _ (i - 1) _ _ _ (dch m :: ys) hset (by rw [hdr]; rfl)
      have hconv := run_bytes_str _ _ (65 - (i - 1)) _ _ hby
      have hys : (dch m :: ys).length = 65 - (i - 1) := by
        have h1 := congrArg List.length hdrop
        simp at h1
        simp; omega
      have hfin := hide (show digits 8 n = dch m :: ys by rw [hd.out, digits8_last m (by omega)]; rfl)
      rw [hys] at hconv
      have hsl := fun W => arr65 W w.heap.size (i - 1) ((i : Int) - 1) (by omega) (by omega)
      clear hdrop hg hset hdr hby
      go_wp2
      go_ret2
      refine ⟨?_, hb.setCell (Nat.le_refl _) _⟩
      rw [hfin.out]; rfl

set_option maxHeartbeats 400000 in
theorem FormatUint_8 (n : Nat) (hn : n ≤ 16777215) (w : World) (hc : w.cell? ⟨21, 7, none⟩ = some (.int .u8 3)) :
    Calls Tryd.prog 63 #[.int .u64 n, .int .i64 8] w fun e w' => e = .returned (.string ⟨(digits 8 n).toArray⟩) ∧ Below w.heap.size w w' := by
  go_enter Tryd.func63, Tryd.ntmps63
  go_wp2_with (first | (go_at_call 88; go_in) | (go_at_call 108; refine (formatBits_8 n hn _ hc).mono ?_; rintro e w1 ⟨rfl, hb1⟩))
  go_ret
  exact ⟨rfl, hb1⟩
end Go.Proofs.YtgdghaijjhbegaaDoor
