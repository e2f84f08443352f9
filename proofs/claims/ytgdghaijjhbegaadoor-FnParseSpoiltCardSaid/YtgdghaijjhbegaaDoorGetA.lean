/- The walk of parseArchive's closure: a field of a header is read as a number. -/
import Derived.Test.YtgdghaijjhbegaaDoorObjF
import Derived.Test.YtgdghaijjhbegaaDoorOctA
import Derived.Test.YtgdghaijjhbegaaDoorFieldsA
import Derived.Test.YtgdghaijjhbegaaDoorErrs
import Derived.Test.YtgdghaijjhbegaaDoorAgain
import Derived.Test.YtgdghaijjhbegaaDoorObjC
namespace Go.Proofs.YtgdghaijjhbegaaDoor
open Go.RowKit
set_option maxRecDepth 100000

theorem cut_at {w : World} {R : Nat} {h : List UInt8} (hby : BytesAt w R 5 h) (a b : Nat) : BytesAt w R (5 + a) (cut h a b) := (hby.drop a).take (b - a)

set_option maxHeartbeats 2000000 in
theorem get_ok (R E T a b base bits v : Nat) (h : List UInt8) (w : World) (hby : BytesAt w R 5 h) (hl : h.length = 60) (hab : a ≤ b) (hb : b ≤ 60) (hE : w.cell? ⟨E, 0, none⟩ = some .nilIface) (hz : w.frozen? ⟨E, 0, none⟩ = false)
    (hT : w.cell? ⟨T, 0, none⟩ = some (.slice (some ⟨R, 5, none⟩) 60 256))
    (hP : ∀ W, Hid (Calls Tryd.prog 73 #[.string ⟨(rtrim 32 (cut h a b)).toArray⟩, .int .i64 base, .int .i64 bits] W fun e w' => e = .returned (.tuple #[.int .i64 v, .nilIface]) ∧ Below W.heap.size W w')) :
    Calls Tryd.prog 72 #[.int .i64 a, .int .i64 b, .int .i64 base, .int .i64 bits, .pointer (some ⟨E, 0, none⟩), .pointer (some ⟨T, 0, none⟩)] w
      fun x w' => x = .returned (.int .i64 v) ∧ w'.cell? ⟨E, 0, none⟩ = some .nilIface ∧ w'.frozen? ⟨E, 0, none⟩ = false ∧ Trod (fun k => k = E) w w' := by
  have hEl := World.block_lt_of_cell? w _ hE
  have hcl : (cut h a b).length = b - a := cut_length h a b (by omega)
  have hts := trimSpace_any R (5 + a) (256 - a) (cut h a b) w (cut_at hby a b) (by omega) (by omega)
  rw [hcl] at hts
  have HT := hide hts
  have q1 : (a : Int) ≤ (b : Int) := by omega
  have q2 : (b : Int) ≤ 60 := by omega
  have q3 : ¬ (256 = a) := by omega
  clear hts hcl hl hby
  generalize rtrim 32 (cut h a b) = txt at *
  go_enter Tryd.func72, Tryd.ntmps72
  go_wp2_with (first | (go_at_call 40; (with_reducible refine (HT.out).mono ?_); rintro x w1 ⟨rfl, rfl⟩) | (go_at_call 73; (with_reducible refine ((hP _).out).mono ?_); rintro x w2 ⟨rfl, hb2⟩; have k2 : w2.cell? ⟨E, 0, none⟩ = _ := (hb2.cell (p := ⟨E, 0, none⟩) hEl).trans hE; have z2 : w2.frozen? ⟨E, 0, none⟩ = _ := (hb2.frozen (p := ⟨E, 0, none⟩) hEl).trans hz))
  go_ret
  exact ⟨rfl, World.cell?_setCell_same _ _ _ k2, by rw [World.frozen?_setCell]; exact z2, (Trod.of_below (S := fun k => k = E) hb2).put E 0 (Or.inl rfl) _⟩

set_option maxHeartbeats 1000000 in
/-- Behind a fault nothing is read. -/
theorem get_err (E T : Nat) (x0 x1 x2 x3 : Int) (t : TypeId) (v : Value) (w : World) (hE : w.cell? ⟨E, 0, none⟩ = some (.iface t v)) :
    Calls Tryd.prog 72 #[.int .i64 x0, .int .i64 x1, .int .i64 x2, .int .i64 x3, .pointer (some ⟨E, 0, none⟩), .pointer (some ⟨T, 0, none⟩)] w
      fun x w' => x = .returned (.int .i64 0) ∧ w = w' := by
  go_enter Tryd.func72, Tryd.ntmps72
  go_wp2
  go_ret
  exact ⟨rfl, rfl⟩

set_option maxHeartbeats 2000000 in
/-- A field that is no number. -/
theorem get_bad (R E T a b base bits : Nat) (h : List UInt8) (w : World) (hby : BytesAt w R 5 h) (hl : h.length = 60) (hab : a ≤ b) (hb : b ≤ 60) (hE : w.cell? ⟨E, 0, none⟩ = some .nilIface) (hz : w.frozen? ⟨E, 0, none⟩ = false)
    (hT : w.cell? ⟨T, 0, none⟩ = some (.slice (some ⟨R, 5, none⟩) 60 256))
    (hP : Hid (Calls Tryd.prog 73 #[.string ⟨(rtrim 32 (cut h a b)).toArray⟩, .int .i64 base, .int .i64 bits] w fun e w' => (∃ N, e = .returned (.tuple #[.int .i64 0, .iface 174 (.pointer (some ⟨N, 0, none⟩))])) ∧ Below w.heap.size w w')) :
    Calls Tryd.prog 72 #[.int .i64 a, .int .i64 b, .int .i64 base, .int .i64 bits, .pointer (some ⟨E, 0, none⟩), .pointer (some ⟨T, 0, none⟩)] w
      fun x w' => x = .returned (.int .i64 0) ∧ (∃ N, w'.cell? ⟨E, 0, none⟩ = some (.iface 174 (.pointer (some ⟨N, 0, none⟩)))) ∧ Trod (fun k => k = E) w w' := by
  have hEl := World.block_lt_of_cell? w _ hE
  have hcl : (cut h a b).length = b - a := cut_length h a b (by omega)
  have hts := trimSpace_any R (5 + a) (256 - a) (cut h a b) w (cut_at hby a b) (by omega) (by omega)
  rw [hcl] at hts
  have HT := hide hts
  have q1 : (a : Int) ≤ (b : Int) := by omega
  have q2 : (b : Int) ≤ 60 := by omega
  have q3 : ¬ (256 = a) := by omega
  clear hts hcl hl hby
  generalize rtrim 32 (cut h a b) = txt at *
  go_enter Tryd.func72, Tryd.ntmps72
  go_wp2_with (first | (go_at_call 40; (with_reducible refine (HT.out).mono ?_); rintro x w1 ⟨rfl, rfl⟩) | (go_at_call 73; (with_reducible refine (hP.out).mono ?_); rintro x w2 ⟨⟨N, rfl⟩, hb2⟩; have k2 : w2.cell? ⟨E, 0, none⟩ = _ := (hb2.cell (p := ⟨E, 0, none⟩) hEl).trans hE; have z2 : w2.frozen? ⟨E, 0, none⟩ = _ := (hb2.frozen (p := ⟨E, 0, none⟩) hEl).trans hz))
  go_ret
  exact ⟨rfl, ⟨N, World.cell?_setCell_same _ _ _ k2⟩, (Trod.of_below (S := fun k => k = E) hb2).put E 0 (Or.inl rfl) _⟩
end Go.Proofs.YtgdghaijjhbegaaDoor

/- The walks of bytes.Equal and of the three marks. -/
namespace Go.Proofs.YtgdghaijjhbegaaDoor
open Go.RowKit
set_option maxRecDepth 100000

set_option maxHeartbeats 400000 in
theorem Equal_any (b1 o1 c1 b2 o2 c2 : Nat) (xs ys : List UInt8) (w : World) (h1 : BytesAt w b1 o1 xs) (h2 : BytesAt w b2 o2 ys) :
    Calls Tryd.prog 51 #[.slice (some ⟨b1, o1, none⟩) xs.length c1, .slice (some ⟨b2, o2, none⟩) ys.length c2] w fun e w' => e = .returned (.bool (xs == ys)) ∧ w = w' := by
  have e1 := run_bytes_str b1 o1 c1 xs w h1
  have e2 := run_bytes_str b2 o2 c2 ys w h2
  go_enter Tryd.func51, Tryd.ntmps51
  go_wp2
  go_ret
  exact ⟨rfl, rfl⟩


set_option maxHeartbeats 400000 in
theorem archiveHeader_any (w : World) : Calls Tryd.prog 44 #[] w fun e w' => e = .returned (.slice (some ⟨w.heap.size, 0, none⟩) 8 8) ∧ BytesAt w' w.heap.size 0 magicB ∧ Below w.heap.size w w' := by
  obtain ⟨W1, fz1, hcv, hb1, hg1, hs1⟩ := bytes_again (w.alloc (.cells #[.int .u8 33, .int .u8 60, .int .u8 97, .int .u8 114, .int .u8 99, .int .u8 104, .int .u8 62, .int .u8 10] 5)) w.heap.size 8 8 _ _ _ (heap_alloc_new w _)
  have hby : BytesAt W1 w.heap.size 0 magicB := BytesAt.of_prefix _ _ _ _ _ magicB [] hg1 rfl
  have hbw : Below w.heap.size w W1 := ((Below.refl _ _).alloc (Nat.le_refl _) _).trans hb1
  go_enter Tryd.func44, Tryd.ntmps44
  go_wp2
  go_ret
  exact ⟨rfl, hby, hbw⟩

def endB : List UInt8 := [96, 10]
set_option maxHeartbeats 400000 in
theorem archiveMagic_any (w : World) : Calls Tryd.prog 71 #[] w fun e w' => e = .returned (.slice (some ⟨w.heap.size, 0, none⟩) 2 2) ∧ BytesAt w' w.heap.size 0 endB ∧ Below w.heap.size w w' := by
  obtain ⟨W1, fz1, hcv, hb1, hg1, hs1⟩ := bytes_again (w.alloc (.cells #[.int .u8 96, .int .u8 10] 5)) w.heap.size 2 2 _ _ _ (heap_alloc_new w _)
  have hby : BytesAt W1 w.heap.size 0 endB := BytesAt.of_prefix _ _ _ _ _ endB [] hg1 rfl
  have hbw : Below w.heap.size w W1 := ((Below.refl _ _).alloc (Nat.le_refl _) _).trans hb1
  go_enter Tryd.func71, Tryd.ntmps71
  go_wp2
  go_ret
  exact ⟨rfl, hby, hbw⟩

def goObjM : List UInt8 := [103, 111, 32, 111, 98, 106, 101, 99]
set_option maxHeartbeats 400000 in
theorem goobjHeader_any (w : World) : Calls Tryd.prog 53 #[] w fun e w' => e = .returned (.slice (some ⟨w.heap.size, 0, none⟩) 8 8) ∧ BytesAt w' w.heap.size 0 goObjM ∧ Below w.heap.size w w' := by
  obtain ⟨W1, fz1, hcv, hb1, hg1, hs1⟩ := bytes_again (w.alloc (.cells #[.int .u8 103, .int .u8 111, .int .u8 32, .int .u8 111, .int .u8 98, .int .u8 106, .int .u8 101, .int .u8 99] 5)) w.heap.size 8 8 _ _ _ (heap_alloc_new w _)
  have hby : BytesAt W1 w.heap.size 0 goObjM := BytesAt.of_prefix _ _ _ _ _ goObjM [] hg1 rfl
  have hbw : Below w.heap.size w W1 := ((Below.refl _ _).alloc (Nat.le_refl _) _).trans hb1
  go_enter Tryd.func53, Tryd.ntmps53
  go_wp2
  go_ret
  exact ⟨rfl, hby, hbw⟩
end Go.Proofs.YtgdghaijjhbegaaDoor

/- The listed package-level errors that the reader looks at, all together; a text that is no number. -/
namespace Go.Proofs.YtgdghaijjhbegaaDoor
open Go.RowKit
set_option maxRecDepth 100000

theorem rtrim_length_le (c : UInt8) (xs : List UInt8) : (rtrim c xs).length ≤ xs.length := by
  unfold rtrim
  rw [List.length_reverse]
  have := (List.dropWhile_sublist (l := xs.reverse) (· == c)).length_le
  rw [List.length_reverse] at this
  exact this

/-- strconv's error of syntax: a variable that holds an interface. -/
def SynVar (w : World) (B : Nat) : Prop := ∃ tp p t fz, w.heap[18]? = some (.cells #[.iface tp p] t fz) ∧ 18 < B

theorem SynVar.below {w w' : World} {B : Nat} (h : SynVar w B) (hb : Below B w w') : SynVar w' B := by
  obtain ⟨tp, p, t, fz, h1, h2⟩ := h
  exact ⟨tp, p, t, fz, (hb.block _ h2).trans h1, h2⟩
theorem SynVar.drew {w : World} {B : Nat} (h : SynVar w B) : SynVar w.drew B := h

structure PLaid (w : World) (B : Nat) : Prop where
  eof : ErrVar w B 0
  une : ErrVar w B 1
  cor : ErrVar w B 5
  nob : ErrVar w B 2
  syn : SynVar w B

theorem PLaid.below {w w' : World} {B : Nat} (h : PLaid w B) (hb : Below B w w') : PLaid w' B := ⟨h.eof.below hb, h.une.below hb, h.cor.below hb, h.nob.below hb, h.syn.below hb⟩
theorem ErrVar.mono {w : World} {B B' g : Nat} (h : ErrVar w B g) (hB : B ≤ B') : ErrVar w B' g := by
  obtain ⟨a, h1, h2, h3, h4⟩ := h
  exact ⟨a, h1, h2, by omega, by omega⟩
theorem SynVar.mono {w : World} {B B' : Nat} (h : SynVar w B) (hB : B ≤ B') : SynVar w B' := by
  obtain ⟨tp, p, t, fz, h1, h2⟩ := h
  exact ⟨tp, p, t, fz, h1, by omega⟩
theorem PLaid.mono {w : World} {B B' : Nat} (h : PLaid w B) (hB : B ≤ B') : PLaid w B' := ⟨h.eof.mono hB, h.une.mono hB, h.cor.mono hB, h.nob.mono hB, h.syn.mono hB⟩

theorem synVar_laid {W : World} {l : List (String × DataW Unit)} {text : List UInt8} (h : laidMet Tryd.prog l W) (hm : ("strconv.ErrSyntax", (.iface "*errors.errorString" (.ptr (.agg [.lit (.string text)])) : DataW Unit)) ∈ l) : SynVar W W.heap.size := by
  have hg : Tryd.prog.globalNamed "strconv.ErrSyntax" = some 18 := by kernel_rfl
  obtain ⟨r, hr⟩ := laid_head h _ hm
  obtain ⟨a, s, hv, _⟩ := laid_sentinel hr hg (by kernel_rfl) Tryd.underlying50 row_errorString Tryd.underlying133 Tryd.underlying135 rfl rfl Tryd.underlying9 (by kernel_rfl) (by kernel_rfl)
  unfold World.var? at hv
  rw [hg, Option.bind_some] at hv
  split at hv
  · rename_i cs t fz he
    obtain rfl := Option.some.inj hv
    exact ⟨_, _, t, fz, he, (Array.getElem?_eq_some_iff.1 he).1⟩
  · cases hv

theorem ParseInt64_bad (c : UInt8) (l : List UInt8) (w : World) (B : Nat) (hl : l.length ≤ 1000) (h : ¬ (48 ≤ c.toNat ∧ c.toNat ≤ 57)) (h43 : c.toNat ≠ 43) (h45 : c.toNat ≠ 45) (hS : SynVar w B) :
    Calls Tryd.prog 73 #[.string ⟨(c :: l).toArray⟩, .int .i64 10, .int .i64 64] w
      fun e w' => (∃ N, e = .returned (.tuple #[.int .i64 0, .iface 174 (.pointer (some ⟨N, 0, none⟩))])) ∧ Below w.heap.size w w' := by
  obtain ⟨tp, p, t, fz, h1, _⟩ := hS
  have hg : Tryd.prog.globalNamed "strconv.ErrSyntax" = some 18 := by kernel_rfl
  refine (Tryd.strconv_ParseInt_10_at64_syntax_var ⟨(c :: l).toArray⟩ (by simp [ByteArray.size]; omega) (by simpa using parseInt64_bad c l h h43 h45) tp p w (by simp [World.var?, hg, h1])).mono ?_
  rintro e w' ⟨N, rfl, _, _, hb⟩
  exact ⟨⟨N, rfl⟩, hb⟩
end Go.Proofs.YtgdghaijjhbegaaDoor
