/- Walks of padName, FormatHeader, impl.Header. -/
import Derived.Test.YtgdghaijjhbegaaDoorMem
import Derived.Test.YtgdghaijjhbegaaDoorTrimLaw
namespace Go.Proofs.YtgdghaijjhbegaaDoor
open Go.RowKit
set_option maxRecDepth 100000

theorem nameOk_ascii {xs : List UInt8} (h : nameOk xs = true) : xs.length ≤ 16 ∧ ∀ (j : Nat) b, xs[j]? = some b → b.toNat < 128 := by
  unfold nameOk at h
  simp only [Bool.and_eq_true, decide_eq_true_eq, List.all_eq_true] at h
  refine ⟨h.2.2, fun j b hj => ?_⟩
  have := (h.1 b (List.mem_of_getElem? hj)).2
  omega

set_option maxHeartbeats 400000 in
theorem padName_any (xs : List UInt8) (w : World) (hok : nameOk xs = true) :
    Calls Tryd.prog 48 #[.string ⟨xs.toArray⟩] w fun e w' => e = .returned (.string ⟨(padTo 16 xs).toArray⟩) ∧ Below w.heap.size w w' := by
  obtain ⟨hl, hasc⟩ := nameOk_ascii hok
  have hR := fun W => hide (Tryd.utf8_RuneCountInString_ascii ⟨xs.toArray⟩ W (by simp [ByteArray.size]; omega) (by simpa using hasc))
  have hsz : (ByteArray.mk xs.toArray).size = xs.length := by simp [ByteArray.size]
  clear hasc hok
  rw [hsz] at hR
  clear hsz
  go_enter Tryd.func48, Tryd.ntmps48
  go_wp2_with (go_at_call 66; (with_reducible refine ((hR _).out).mono ?_); rintro e w1 ⟨rfl, hw1⟩; have hb : Below w.heap.size w w1 := (by rw [hw1]; exact (Below.refl _ _).alloc (Nat.le_refl _) _); clear hw1)
  go_loop [3, 0] (fun t s => ∃ ys : List UInt8, t = .int .i64 ys.length ∧ s = .string ⟨ys.toArray⟩ ∧ ys.length ≤ 16 ∧ Hid (padTo 16 ys = padTo 16 xs)) (fun t _ => 16 - (intOf t).toNat)
  case atStart => exact ⟨xs, rfl, rfl, hl, rfl⟩
  case round =>
    obtain ⟨ys, rfl, rfl, hy, hr⟩ := hrel
    by_cases hlt : ys.length < 16
    · go_wp2
      go_round
      case rel =>
        refine ⟨ys ++ [32], by simp, ?_, by simp; omega, ?_⟩
        · exact congrArg Value.string (mk_append ys [32])
        · exact (padTo_succ 16 ys hlt).trans hr.out
      case measure => simp [intOf]; omega
    · go_wp2
      go_ret
      refine ⟨?_, hb⟩
      have := hr.out
      rw [padTo_ge 16 ys (by omega)] at this
      rw [← this]; rfl

set_option maxHeartbeats 1000000 in
theorem FormatHeader_any (g : Nat) (cs : Array Value) (t : TypeId) (nm : List UInt8) (sz : Int) (w : World) (hok : nameOk nm = true) (hN : NumLaid w) (a5 : 0 ≤ sz) (h5 : sz ≤ 9999999999)
    (hg : w.heap[g]? = some (.cells cs t (0, 0))) (hcs : cs.size = 60) (hgN : 21 < g) :
    Calls Tryd.prog 38 #[.slice (some ⟨g, 0, none⟩) 60 60, .string ⟨nm.toArray⟩, .int .i64 sz] w
      fun e w' => e = .returned (.tuple #[]) ∧ Below g w w' ∧ BytesAt w' g 0 (headerN nm 0 0 0 420 sz.toNat) := by
  have hnl := (nameOk_ascii hok).1
  have hpl : (padTo 16 nm).length = 16 := by rw [padTo_length]; omega
  have hpl' : (padTo 16 nm).length ≤ 4503599627370496 := by omega
  have hP := fun W => hide (padName_any nm W hok)
  have hgs : g < w.heap.size := (Array.getElem?_eq_some_iff.1 hg).1
  go_enter Tryd.func38, Tryd.ntmps38
  go_region_held3 (fun _ => True) (trivial)
    (first
      | (go_at_call 48; (with_reducible refine ((hP _).out).mono ?_); rintro e w1 ⟨rfl, hb1⟩; have hN1 : NumLaid w1 := hN.drew.below hb1 (Nat.le_refl _))
      | (go_at_call 46; (with_reducible refine (entryHeader_any _ _ _ _ _ _ _ hpl' (by assumption) (by omega) (by omega) (by omega) (by omega) (by omega) (by omega) (by omega) (by omega) (by omega) (by omega)).mono ?_); rintro e w2 ⟨rfl, hb2, hN2⟩)
      | (refine step_run rfl (run_copy_exec _ _ _ _ rfl rfl rfl (run_copy_str _ g 0 60 60 t cs (headerP (padTo 16 nm) 0 0 0 420 sz.toNat) ?c2 ?c3)) ?_; (case c2 => exact ((hb2.block g (by have h1 := hb1.size; simp at h1; omega)).trans (hb1.block g hgs)).trans hg); (case c3 => omega)))
  go_end0
  have hlen : (headerP (padTo 16 nm) 0 0 0 420 sz.toNat).length = 60 := headerN_length nm 0 0 0 420 sz.toNat hnl (by omega) (by omega) (by omega) (by omega) (by omega)
  have hs1 := hb1.size
  simp only [World.size_drew] at hs1
  have hg2 : w2.heap[g]? = some (.cells cs t (0, 0)) := ((hb2.block g (by omega)).trans (hb1.block g hgs)).trans hg
  refine ⟨rfl, ?_, ?_⟩
  · refine below_setRow ?_ (Nat.le_refl g) _
    exact ((Below.refl g w).drew.trans (hb1.mono (by simp; omega))).trans (hb2.mono (by omega))
  · refine bytesAt_of_drop _ g 0 _ t (0, 0) _ (setRow_heap w2 g cs _ t (0, 0) hg2) ?_
    rw [hlen]
    have e : (headerP (padTo 16 nm) 0 0 0 420 sz.toNat).take (min 60 60) = headerN nm 0 0 0 420 sz.toNat := by
      rw [List.take_of_length_le (by rw [hlen]; decide)]; rfl
    rw [e]
    have hl2 : (headerN nm 0 0 0 420 sz.toNat).length = 60 := hlen
    simp only [splice, List.take_zero, List.nil_append, List.drop_zero, Nat.zero_add, bcells_length, hl2]
    rw [List.drop_of_length_le (by simp; omega)]
    simp [bcells]

def zeros60 : Array Value := (List.replicate 60 (Value.int .u8 0)).toArray
theorem make60 (W : World) : (Instr.makeSlice 41 (.int .i64 60) (.int .i64 60)).run Tryd.prog W = .ok (.slice (some ⟨W.heap.size, 0, none⟩) 60 60) (W.alloc (.cells zeros60 5)) := by kernel_rfl

set_option maxHeartbeats 400000 in
theorem implHeader_any (nm : List UInt8) (sz : Int) (w : World) (hok : nameOk nm = true) (hN : NumLaid w) (a5 : 0 ≤ sz) (h5 : sz ≤ 9999999999) :
    Calls Tryd.prog 24 #[.string ⟨nm.toArray⟩, .int .i64 sz] w fun e w' => e = .returned (.string ⟨(headerN nm 0 0 0 420 sz.toNat).toArray⟩) ∧ Below w.heap.size w w' := by
  have hm := make60
  have hN1 : NumLaid (w.alloc (.cells zeros60 5)) := hN.below ((Below.refl _ _).alloc (Nat.le_refl _) _) (Nat.le_refl _)
  have hF := hide (FormatHeader_any w.heap.size zeros60 5 nm sz _ hok hN1 a5 h5 (heap_alloc_new w _) (by kernel_rfl) hN.size)
  have hlen : (headerN nm 0 0 0 420 sz.toNat).length = 60 := headerN_length nm 0 0 0 420 sz.toNat (nameOk_ascii hok).1 (by omega) (by omega) (by omega) (by omega) (by omega)
  have Hlen := hide hlen
  clear hlen
  go_enter Tryd.func24, Tryd.ntmps24
  go_wp2_with (go_at_call 38; (with_reducible refine (hF.out).mono ?_); rintro e w2 ⟨rfl, hb2, hby⟩; have hcv := run_bytes_str w.heap.size 0 60 _ w2 hby; rw [Hlen.out] at hcv; clear hby)
  go_ret
  exact ⟨rfl, ((Below.refl _ _).alloc (Nat.le_refl _) _).trans hb2⟩

theorem header_again (nm : List UInt8) (sz : Nat) (hl : nm.length ≤ 16) (hs : sz ≤ 9999999999) :
    (headerN nm 0 0 0 420 0).take 48 ++ padTo 10 (digits 10 sz) ++ (headerN nm 0 0 0 420 0).drop 58 = headerN nm 0 0 0 420 sz := by
  have a4 := digits_len_le 8 (by omega) 7 420 (by omega)
  have a5 := digits_len_le 10 (by omega) 9 sz (by omega)
  have a0 := digits_len_le 10 (by omega) 0 0 (by omega)
  have hA : (padTo 16 nm ++ padTo 12 (digits 10 0) ++ padTo 6 (digits 10 0) ++ padTo 6 (digits 10 0) ++ padTo 8 (digits 8 420)).length = 48 := by
    simp only [List.length_append, padTo_length]; omega
  have hB : (padTo 10 (digits 10 0)).length = 10 := by rw [padTo_length]; omega
  unfold headerN
  generalize padTo 16 nm ++ padTo 12 (digits 10 0) ++ padTo 6 (digits 10 0) ++ padTo 6 (digits 10 0) ++ padTo 8 (digits 8 420) = A at *
  generalize padTo 10 (digits 10 0) = B at *
  have e1 : (A ++ B ++ [96, 10]).take 48 = A := by rw [List.append_assoc, ← hA, List.take_left]
  have e2 : (A ++ B ++ [96, 10]).drop 58 = [96, 10] := by
    have : (A ++ B).length = 58 := by rw [List.length_append]; omega
    rw [← this, List.drop_left]
  rw [e1, e2]

set_option maxHeartbeats 1000000 in
theorem FnExactHeader_any (nm : List UInt8) (sz : Int) (w : World) (hs : nm.length ≤ 9223372036854775807) (hN : NumLaid w) :
    Calls Tryd.prog 6 #[.string ⟨nm.toArray⟩, .int .i64 sz] w fun e w' => e = .returned (.bool true) ∧ Below w.heap.size w w' := by
  by_cases hbig : 2147483647 < nm.length
  · go_enter Tryd.func6, Tryd.ntmps6
    go_wp2
    go_ret
    exact ⟨rfl, Below.refl _ _⟩
  · cases hok : nameOk nm
    · have hK := hide ((NameOk_any nm w hs).mono fun e w' h => (by rw [hok] at h; exact h : e = .returned (.bool false) ∧ w = w'))
      clear hok
      go_enter Tryd.func6, Tryd.ntmps6
      go_wp2_with (first | (go_at_call 13; refine hK.out.mono ?_; rintro e w1 ⟨rfl, rfl⟩) | (go_at_call 12; refine (heads_any _).mono ?_; rintro e w2 ⟨rfl, hb2⟩))
      go_ret
      exact ⟨rfl, hb2⟩
    · have hK := hide ((NameOk_any nm w hs).mono fun e w' h => (by rw [hok] at h; exact h : e = .returned (.bool true) ∧ w = w'))
      by_cases hw : 0 ≤ sz ∧ sz ≤ 9999999999
      · have hW := hide ((Within_any sz 0 9999999999 w).mono fun e w' h => (⟨by rw [h.1]; exact ret_bool (by simp [withinB, hw]), h.2⟩ : e = .returned (.bool true) ∧ w = w'))
        have hnl := (nameOk_ascii hok).1
        have hH0 : Calls Tryd.prog 21 #[.agg #[.string ⟨nm.toArray⟩, .int .i64 0, .int .i64 0, .int .i64 0, .int .i64 0, .int .i64 420, .string ⟨#[]⟩, .int .i64 0]] w
          fun e w' => e = .returned (.string ⟨(headerN nm 0 0 0 420 0).toArray⟩) ∧ Below w.heap.size w w' := Header_any nm [] 0 0 0 0 0 420 w (by omega) (by simp) (by omega) (by omega) (by omega) (by omega)
        have hH := hide hH0
        clear hH0
        obtain ⟨h0, h1⟩ := hw
        have hlen : (headerN nm 0 0 0 420 0).length = 60 := headerN_length nm 0 0 0 420 0 hnl (by omega) (by omega) (by omega) (by omega) (by omega)
        have hagain := hide (header_again nm sz.toNat hnl (by omega))
        have hI := fun W h => hide (implHeader_any nm sz W hok h h0 h1)
        have l5 := digits_length 10 sz.toNat
        have p5 : (padTo 10 (digits 10 sz.toNat)).length ≤ 9007199254740992 := by rw [padTo_length]; omega
        have hD := fun W => hide (Digits10_any sz.toNat W (by omega))
        rw [Int.toNat_of_nonneg h0] at hD
        generalize headerN nm 0 0 0 420 0 = H at *
        have e1 : (ByteArray.mk H.toArray).extract 0 48 = ⟨(H.take 48).toArray⟩ := by rw [ByteArray.extract_mk]; rfl
        have e2 : (ByteArray.mk H.toArray).extract 58 H.length = ⟨(H.drop 58).toArray⟩ := by
          rw [ByteArray.extract_mk, hlen, List.take_of_length_le (by rw [List.length_drop]; omega)]
        have hA : (H.take 48).length ≤ 48 := by rw [List.length_take]; omega
        have hB : (H.drop 58).length ≤ 2 := by rw [List.length_drop]; omega
        generalize H.take 48 = A at *
        generalize H.drop 58 = B at *
        have q1 : ¬ 9223372036854775807 < A.length + (padTo 10 (digits 10 sz.toNat)).length := by omega
        have q2 : ¬ 9223372036854775807 < A.length + (padTo 10 (digits 10 sz.toNat)).length + B.length := by omega
        have hl58 : (58 : Int) ≤ H.length := by omega
        have hl48 : (48 : Int) ≤ H.length := by omega
        have Hlen := hide hlen
        clear hlen hok
        go_enter Tryd.func6, Tryd.ntmps6
        go_wp2_with (first | (go_at_call 13; refine hK.out.mono ?_; rintro e w1 ⟨rfl, rfl⟩) | (go_at_call 20; refine hW.out.mono ?_; rintro e w1 ⟨rfl, rfl⟩) | (go_at_call 21; refine hH.out.mono ?_; rintro e w1 ⟨rfl, hb1⟩))
        go_region_held3 (fun _ => True) (trivial)
          (first
            | (go_at_call 23; (with_reducible refine ((hD _).out).mono ?_); rintro e w2 ⟨rfl, hb2⟩)
            | (go_at_call 22; (with_reducible refine (Padded_any _ _ _ ?c1 (by omega) (by omega)).mono ?_); (case c1 => omega); rintro e w3 ⟨rfl, rfl⟩))
        have hN1 : NumLaid w2 := (hN.below hb1 (Nat.le_refl _)).drew.below hb2 (Nat.le_refl _)
        go_wp2_with (go_at_call 24; refine (hI _ hN1).out.mono ?_; rintro e w4 ⟨rfl, hb4⟩)
        go_ret
        refine ⟨ret_bool ?_, ?_⟩
        · rw [mk_append, mk_append, toList_mk, hagain.out]; simp
        · have z1 := hb1.size
          have z2 := hb2.size
          simp only [World.size_drew] at z2
          exact ((hb1.drew).trans (hb2.mono (by simp; omega))).trans (hb4.mono (by omega))
      · have hW := hide ((Within_any sz 0 9999999999 w).mono fun e w' h => (⟨by rw [h.1]; exact ret_bool (by simp [withinB]; intro h0; omega), h.2⟩ : e = .returned (.bool false) ∧ w = w'))
        clear hok
        go_enter Tryd.func6, Tryd.ntmps6
        go_wp2_with (first | (go_at_call 13; refine hK.out.mono ?_; rintro e w1 ⟨rfl, rfl⟩) | (go_at_call 20; refine hW.out.mono ?_; rintro e w1 ⟨rfl, rfl⟩) | (go_at_call 12; refine (heads_any _).mono ?_; rintro e w2 ⟨rfl, hb2⟩))
        go_ret
        exact ⟨rfl, hb2⟩
end Go.Proofs.YtgdghaijjhbegaaDoor
