/- Walks of pad and entryHeader. -/
import Derived.Test.YtgdghaijjhbegaaDoorFmtA
import Derived.Test.YtgdghaijjhbegaaDoorShelf
import Derived.WalkSmall
namespace Go.Proofs.YtgdghaijjhbegaaDoor
open Go.RowKit
set_option maxRecDepth 100000

/-- What the numbers' texts need of the package-level variables. -/
structure NumLaid (w : World) : Prop where
  pow : Lib.TabIs Tryd.prog w "internal/strconv.uint64pow10" .u64 Lib.pow10Tab
  tz : w.cell? ⟨21, 7, none⟩ = some (.int .u8 3)
theorem gPow : Tryd.prog.globalNamed "internal/strconv.uint64pow10" = some 16 := by kernel_rfl
theorem NumLaid.size {w : World} (h : NumLaid w) : 21 < w.heap.size := World.block_lt_of_cell? w _ h.tz
theorem NumLaid.below {w w' : World} (h : NumLaid w) {B : Nat} (hb : Below B w w') (hB : w.heap.size ≤ B) : NumLaid w' :=
  ⟨var?_below hb gPow (by have := h.size; omega) h.pow, (hb.cell (p := ⟨21, 7, none⟩) (by have := h.size; show 21 < B; omega)).trans h.tz⟩

theorem NumLaid.drew {w : World} (h : NumLaid w) : NumLaid w.drew := h.below ((Below.refl w.heap.size w).drew) (Nat.le_refl _)

theorem decDigits_eq (n : Nat) : Lib.decDigits n = digits 10 n := by
  induction n using Nat.strongRecOn with
  | _ n ih =>
    rw [Lib.decDigits, digits]
    by_cases h : n < 10
    · rw [dif_pos h, if_pos (by omega)]; rfl
    · rw [dif_neg h, if_neg (by omega), ih _ (by omega)]; rfl
theorem itoa_eq (n : Nat) : Lib.itoa (n : Int) = digits 10 n := by
  unfold Lib.itoa
  rw [if_neg (by omega), Int.toNat_natCast, decDigits_eq]
theorem below_grow (w : World) (k : Nat) (os : Array Obj) : Below w.heap.size w (Go.Sort.grow (w.drewN k) os) := by
  refine ⟨rfl, rfl, rfl, ?_, fun j hj => ?_⟩
  · show w.heap.size ≤ (w.heap ++ os).size
    simp
  · show (w.heap ++ os)[j]? = w.heap[j]?
    rw [Array.getElem?_append_left hj]

theorem FormatInt10_any (n : Int) (w : World) (h0 : 0 ≤ n) (hn : n ≤ 4611686018427387904) (hN : NumLaid w) :
    Calls Tryd.prog 61 #[.int .i64 n, .int .i64 10] w fun e w' => e = .returned (.string ⟨(digits 10 n.toNat).toArray⟩) ∧ Below w.heap.size w w' ∧ NumLaid w' := by
  obtain ⟨n, rfl⟩ := Int.eq_ofNat_of_zero_le h0
  refine (Tryd.strconv_FormatInt_10 n (by omega) (by omega) w hN.pow).mono fun e w' ⟨he, k, os, hw⟩ => ?_
  subst hw
  exact ⟨by rw [he, itoa_eq]; rfl, below_grow w k os, hN.below (below_grow w k os) (Nat.le_refl _)⟩
theorem Itoa_any (n : Int) (w : World) (h0 : 0 ≤ n) (hn : n ≤ 4611686018427387904) (hN : NumLaid w) :
    Calls Tryd.prog 62 #[.int .i64 n] w fun e w' => e = .returned (.string ⟨(digits 10 n.toNat).toArray⟩) ∧ Below w.heap.size w w' ∧ NumLaid w' := by
  obtain ⟨n, rfl⟩ := Int.eq_ofNat_of_zero_le h0
  refine (Tryd.strconv_Itoa n (by omega) (by omega) w hN.pow).mono fun e w' ⟨he, k, os, hw⟩ => ?_
  subst hw
  exact ⟨by rw [he, itoa_eq]; rfl, below_grow w k os, hN.below (below_grow w k os) (Nat.le_refl _)⟩
theorem FormatUint8_any (n : Int) (w : World) (h0 : 0 ≤ n) (hn : n ≤ 16777215) (hN : NumLaid w) :
    Calls Tryd.prog 63 #[.int .u64 n, .int .i64 8] w fun e w' => e = .returned (.string ⟨(digits 8 n.toNat).toArray⟩) ∧ Below w.heap.size w w' ∧ NumLaid w' := by
  obtain ⟨n, rfl⟩ := Int.eq_ofNat_of_zero_le h0
  exact (FormatUint_8 n (by omega) w hN.tz).mono fun e w' ⟨he, hb⟩ => ⟨he, hb, hN.below hb (Nat.le_refl _)⟩

set_option maxHeartbeats 400000 in
theorem pad_nat (xs : List UInt8) (n : Nat) (w : World) (hs : xs.length ≤ 4611686018427387904) (hn : n ≤ 4611686018427387904) :
    Calls Tryd.prog 60 #[.string ⟨xs.toArray⟩, .int .i64 n] w fun e w' => e = .returned (.string ⟨(padTo n xs).toArray⟩) ∧ w = w' := by
  go_enter Tryd.func60, Tryd.ntmps60
  go_wp2
  go_loop [0] (fun s => ∃ ys : List UInt8, s = .string ⟨ys.toArray⟩ ∧ ys.length ≤ 4611686018427387904 ∧ Hid (padTo n ys = padTo n xs)) (fun s => n - strLen s)
  case atStart => exact ⟨xs, rfl, hs, rfl⟩
  case round =>
    obtain ⟨ys, rfl, hy, hr⟩ := hrel
    by_cases hlt : ys.length < n
    · go_wp2
      go_round
      case rel =>
        refine ⟨ys ++ [32], ?_, by simp; omega, ?_⟩
        · exact congrArg Value.string (mk_append ys [32])
        · exact (padTo_succ n ys hlt).trans hr.out
      case measure => simp [strLen, ByteArray.size]; omega
    · go_wp2
      go_ret
      refine ⟨?_, rfl⟩
      have := hr.out
      rw [padTo_ge n ys (by omega)] at this
      rw [← this]; rfl
theorem pad_any (xs : List UInt8) (n : Int) (w : World) (hs : xs.length ≤ 4611686018427387904) (h0 : 0 ≤ n) (hn : n ≤ 4611686018427387904) :
    Calls Tryd.prog 60 #[.string ⟨xs.toArray⟩, .int .i64 n] w fun e w' => e = .returned (.string ⟨(padTo n.toNat xs).toArray⟩) ∧ w = w' := by
  obtain ⟨m, rfl⟩ := Int.eq_ofNat_of_zero_le h0
  exact pad_nat xs m w hs (by omega)

/-- A header whose name is padded already. -/
def headerP (nm16 : List UInt8) (tm us gr md sz : Nat) : List UInt8 :=
  nm16 ++ padTo 12 (digits 10 tm) ++ padTo 6 (digits 10 us) ++ padTo 6 (digits 10 gr) ++ padTo 8 (digits 8 md) ++ padTo 10 (digits 10 sz) ++ [96, 10]

set_option maxHeartbeats 2000000 in
theorem entryHeader_any (nm : List UInt8) (tm us gr md sz : Int) (w : World) (hn : nm.length ≤ 4503599627370496) (hN : NumLaid w)
    (a1 : 0 ≤ tm) (h1 : tm ≤ 4503599627370496) (a2 : 0 ≤ us) (h2 : us ≤ 4503599627370496) (a3 : 0 ≤ gr) (h3 : gr ≤ 4503599627370496) (a4 : 0 ≤ md) (h4 : md ≤ 16777215) (a5 : 0 ≤ sz) (h5 : sz ≤ 4503599627370496) :
    Calls Tryd.prog 46 #[.string ⟨nm.toArray⟩, .int .i64 tm, .int .i64 us, .int .i64 gr, .int .u32 md, .int .i64 sz] w
      fun e w' => e = .returned (.string ⟨(headerP nm tm.toNat us.toNat gr.toNat md.toNat sz.toNat).toArray⟩) ∧ Below w.heap.size w w' ∧ NumLaid w' := by
  have l1 := digits_length 10 tm.toNat
  have l2 := digits_length 10 us.toNat
  have l3 := digits_length 10 gr.toNat
  have l4 := digits_length 8 md.toNat
  have l5 := digits_length 10 sz.toNat
  have p1 : (padTo 12 (digits 10 tm.toNat)).length ≤ 9007199254740992 := by rw [padTo_length]; omega
  have p2 : (padTo 6 (digits 10 us.toNat)).length ≤ 9007199254740992 := by rw [padTo_length]; omega
  have p3 : (padTo 6 (digits 10 gr.toNat)).length ≤ 9007199254740992 := by rw [padTo_length]; omega
  have p4 : (padTo 8 (digits 8 md.toNat)).length ≤ 9007199254740992 := by rw [padTo_length]; omega
  have p5 : (padTo 10 (digits 10 sz.toNat)).length ≤ 9007199254740992 := by rw [padTo_length]; omega
  go_enter Tryd.func46, Tryd.ntmps46
  go_wp2_with (first
      | (go_at_call 60; (with_reducible refine (pad_any _ _ _ ?c1 (by omega) (by omega)).mono ?_); (case c1 => omega); rintro e w1 ⟨rfl, rfl⟩)
      | (go_at_call 61; (with_reducible refine (FormatInt10_any _ _ (by omega) (by omega) (by assumption)).mono ?_); rintro e w1 ⟨rfl, hb1, hN1⟩)
      | (go_at_call 62; (with_reducible refine (Itoa_any _ _ (by omega) (by omega) (by assumption)).mono ?_); rintro e w1 ⟨rfl, hb1, hN1⟩)
      | (go_at_call 63; (with_reducible refine (FormatUint8_any _ _ (by omega) (by omega) (by assumption)).mono ?_); rintro e w1 ⟨rfl, hb1, hN1⟩))
  go_ret
  refine ⟨?_, ?_, by assumption⟩
  · refine ret_str ?_
    simp [headerP, mk_append]
  · repeat (refine Below.trans ?_ (Below.mono (by assumption) ?_))
    · exact Below.refl _ _
    all_goals (repeat (first | exact Nat.le_refl _ | (refine Nat.le_trans ?_ (Below.size (by assumption)))))
end Go.Proofs.YtgdghaijjhbegaaDoor
