/- Walks of Header, Archive: the reference's archive. -/
import Derived.Test.YtgdghaijjhbegaaDoorSpecB
import Derived.Deep.RegionHeld3
namespace Go.Proofs.YtgdghaijjhbegaaDoor
open Go.RowKit
set_option maxRecDepth 100000

/-- The header of an entry of so many bytes. -/
def headerN (nm : List UInt8) (tm us gr md sz : Nat) : List UInt8 :=
  padTo 16 nm ++ padTo 12 (digits 10 tm) ++ padTo 6 (digits 10 us) ++ padTo 6 (digits 10 gr) ++ padTo 8 (digits 8 md) ++ padTo 10 (digits 10 sz) ++ [96, 10]

theorem digits_length (base n : Nat) : (digits base n).length ≤ n + 1 := by
  induction n using Nat.strongRecOn with
  | _ n ih =>
    rw [digits]
    split
    · simp
    · rename_i h
      have h2 : n / base < n := Nat.div_lt_self (by omega) (by omega)
      have := ih (n / base) h2
      simp only [List.length_append, List.length_cons, List.length_nil]
      omega
theorem padTo_length (n : Nat) (xs : List UInt8) : (padTo n xs).length = max n xs.length := by
  simp [padTo]; omega

theorem ret_str {a b : ByteArray} (h : a = b) : Ending.returned (.string a) = Ending.returned (.string b) := by rw [h]

theorem run_add (xs ys : List UInt8) (h : xs.length + ys.length ≤ 9223372036854775807) (W : World) :
    (binOp .add 9 (.string ⟨xs.toArray⟩) (.string ⟨ys.toArray⟩)).run Tryd.prog W = .ok (.string ⟨(xs ++ ys).toArray⟩) W := by
  have h1 : ¬ (((ByteArray.mk xs.toArray).size + (ByteArray.mk ys.toArray).size : Nat) : Int) > IntKind.i64.max := by
    simp [ByteArray.size, IntKind.max, IntKind.bits]; omega
  simp only [binOp, Op.stringOp, if_neg h1]
  rw [mk_append]; rfl

set_option maxHeartbeats 2000000 in
theorem Header_any (nm da : List UInt8) (kd off : Int) (tm us gr md : Nat) (w : World) (hn : nm.length ≤ 4503599627370496) (hd : da.length ≤ 4503599627370496)
    (h1 : tm ≤ 4503599627370496) (h2 : us ≤ 4503599627370496) (h3 : gr ≤ 4503599627370496) (h4 : md ≤ 4503599627370496) :
    Calls Tryd.prog 21 #[.agg #[.string ⟨nm.toArray⟩, .int .i64 kd, .int .i64 tm, .int .i64 us, .int .i64 gr, .int .i64 md, .string ⟨da.toArray⟩, .int .i64 off]] w
      fun e w' => e = .returned (.string ⟨(headerN nm tm us gr md da.length).toArray⟩) ∧ Below w.heap.size w w' := by
  have l1 := digits_length 10 tm
  have l2 := digits_length 10 us
  have l3 := digits_length 10 gr
  have l4 := digits_length 8 md
  have l5 := digits_length 10 da.length
  have p0 : (padTo 16 nm).length ≤ 9007199254740992 := by rw [padTo_length]; omega
  have p1 : (padTo 12 (digits 10 tm)).length ≤ 9007199254740992 := by rw [padTo_length]; omega
  have p2 : (padTo 6 (digits 10 us)).length ≤ 9007199254740992 := by rw [padTo_length]; omega
  have p3 : (padTo 6 (digits 10 gr)).length ≤ 9007199254740992 := by rw [padTo_length]; omega
  have p4 : (padTo 8 (digits 8 md)).length ≤ 9007199254740992 := by rw [padTo_length]; omega
  have p5 : (padTo 10 (digits 10 da.length)).length ≤ 9007199254740992 := by rw [padTo_length]; omega
  have q1 : ¬ 9223372036854775807 < (padTo 16 nm).length + (padTo 12 (digits 10 tm)).length := by omega
  have q2 : ¬ 9223372036854775807 < (padTo 16 nm).length + (padTo 12 (digits 10 tm)).length + (padTo 6 (digits 10 us)).length := by omega
  have q3 : ¬ 9223372036854775807 < (padTo 16 nm).length + (padTo 12 (digits 10 tm)).length + (padTo 6 (digits 10 us)).length + (padTo 6 (digits 10 gr)).length := by omega
  have q4 : ¬ 9223372036854775807 < (padTo 16 nm).length + (padTo 12 (digits 10 tm)).length + (padTo 6 (digits 10 us)).length + (padTo 6 (digits 10 gr)).length + (padTo 8 (digits 8 md)).length := by omega
  have q5 : ¬ 9223372036854775807 < (padTo 16 nm).length + (padTo 12 (digits 10 tm)).length + (padTo 6 (digits 10 us)).length + (padTo 6 (digits 10 gr)).length + (padTo 8 (digits 8 md)).length + (padTo 10 (digits 10 da.length)).length := by omega
  have q6 : ¬ 9223372036854775807 < (padTo 16 nm).length + (padTo 12 (digits 10 tm)).length + (padTo 6 (digits 10 us)).length + (padTo 6 (digits 10 gr)).length + (padTo 8 (digits 8 md)).length + (padTo 10 (digits 10 da.length)).length + 2 := by omega
  go_enter Tryd.func21, Tryd.ntmps21
  go_wp2
  go_region_held3 (fun W' => W'.cell? ⟨w.heap.size, 0, none⟩ = some (.string ⟨nm.toArray⟩) ∧ W'.cell? ⟨w.heap.size, 2, none⟩ = some (.int .i64 tm) ∧ W'.cell? ⟨w.heap.size, 3, none⟩ = some (.int .i64 us)
      ∧ W'.cell? ⟨w.heap.size, 4, none⟩ = some (.int .i64 gr) ∧ W'.cell? ⟨w.heap.size, 5, none⟩ = some (.int .i64 md) ∧ W'.cell? ⟨w.heap.size, 6, none⟩ = some (.string ⟨da.toArray⟩) ∧ w.heap.size < W'.heap.size)
    ((first | assumption | (simp [*]; done)))
    (first
      | (go_at_call 22; refine (Padded_any _ _ _ ?c1 (by omega) (by omega)).mono ?_; (case c1 => omega); rintro e w1 ⟨rfl, rfl⟩)
      | (go_at_call 23; (first | (with_reducible refine (Digits10_any _ _ (by omega)).mono ?_) | (with_reducible refine (Digits8_any _ _ (by omega)).mono ?_)); rintro e w1 ⟨rfl, hb1⟩; have k := fun j => hb1.cell (p := ⟨w.heap.size, j, none⟩) (by first | omega | (simp; done)); have hz : w.heap.size < w1.heap.size := (by have := hb1.size; first | omega | (simp at this; omega))))
  go_wp2
  go_ret
  refine ⟨?_, ?_⟩
  · refine ret_str ?_
    simp [headerN, mk_append]
  · repeat (refine Below.trans ?_ (Below.mono (by assumption) ?_))
    · exact ((Below.refl _ _).alloc (Nat.le_refl _) _).drew
    all_goals (first | omega | (simp; done) | (simp; omega))
end Go.Proofs.YtgdghaijjhbegaaDoor
