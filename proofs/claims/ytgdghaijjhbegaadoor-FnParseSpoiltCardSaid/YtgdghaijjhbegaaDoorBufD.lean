/- The walks of the file's Seek, the buffered reader's reset, Reset and making; MustSeek. -/
import Derived.Test.YtgdghaijjhbegaaDoorBufC
import Derived.Stop.Asserts
import Derived.WalkSpells
import Derived.Test.YtgdghaijjhbegaaDoorObjC
import Derived.WalkLawsBesides
namespace Go.Proofs.YtgdghaijjhbegaaDoor
open Go.RowKit
set_option maxRecDepth 100000

theorem PFile.seek {w : World} {F D cap : Nat} {data : List UInt8} {off : Nat} (h : PFile w F D cap data off) (k : Nat) : PFile (w.setCell ⟨F, 2, none⟩ (.int .i64 k)) F D cap data k := h.moved (S := fun _ => False) (Trod.refl w) id id
theorem Trod.seek (w : World) (F : Nat) (x : Value) : Trod (fun k => k = F) w (w.setCell ⟨F, 2, none⟩ x) := Trod.set (S := fun k => k = F) (p := ⟨F, 2, none⟩) (Trod.refl w) (Or.inl rfl) _

set_option maxHeartbeats 400000 in
theorem FSeek_start (F D cap : Nat) (data : List UInt8) (off k : Nat) (w : World) (hf : PFile w F D cap data off) (_hk : k ≤ 1099511627776) :
    Calls Tryd.prog 45 #[.pointer (some ⟨F, 0, none⟩), .int .i64 k, .int .i64 0] w
      fun e w' => e = .returned (.tuple #[.int .i64 k, .nilIface]) ∧ PFile w' F D cap data k ∧ Trod (fun k => k = F) w w' := by
  have h2 := hf.c2
  have f2 := hf.f2
  go_enter Tryd.func45, Tryd.ntmps45
  go_wp2
  go_ret2
  exact ⟨rfl, hf.seek k, Trod.seek _ _ _⟩

set_option maxHeartbeats 400000 in
theorem FSeek_cur (F D cap : Nat) (data : List UInt8) (off : Nat) (w : World) (hf : PFile w F D cap data off) (hk : off ≤ 1099511627776) :
    Calls Tryd.prog 45 #[.pointer (some ⟨F, 0, none⟩), .int .i64 0, .int .i64 1] w
      fun e w' => e = .returned (.tuple #[.int .i64 off, .nilIface]) ∧ PFile w' F D cap data off ∧ Trod (fun k => k = F) w w' := by
  have h2 := hf.c2
  have f2 := hf.f2
  go_enter Tryd.func45, Tryd.ntmps45
  go_wp2
  go_ret2
  exact ⟨rfl, hf.seek off, Trod.seek _ _ _⟩

set_option maxHeartbeats 400000 in
theorem FSeek_end (F D cap : Nat) (data : List UInt8) (off : Nat) (w : World) (hf : PFile w F D cap data off) :
    Calls Tryd.prog 45 #[.pointer (some ⟨F, 0, none⟩), .int .i64 0, .int .i64 2] w
      fun e w' => e = .returned (.tuple #[.int .i64 data.length, .nilIface]) ∧ PFile w' F D cap data data.length ∧ Trod (fun k => k = F) w w' := by
  have h1 := hf.c1
  have h2 := hf.c2
  have f2 := hf.f2
  have hl := hf.ll
  go_enter Tryd.func45, Tryd.ntmps45
  go_wp2
  go_ret2
  exact ⟨rfl, hf.seek data.length, Trod.seek _ _ _⟩

/-- A buffered reader's seven cells, whatever they hold. -/
structure URaw (w : World) (U : Nat) : Prop where
  hi : U < w.heap.size
  c : ∀ j, j < 7 → ∃ v, w.cell? ⟨U, j, none⟩ = some v
  fz : ∀ j, w.frozen? ⟨U, j, none⟩ = false

theorem UAt.raw {w : World} {U B F r e : Nat} (h : UAt w U B F r e) : URaw w U := by
  refine ⟨h.hi, fun j hj => ?_, h.fz⟩
  have : j = 0 ∨ j = 1 ∨ j = 2 ∨ j = 3 ∨ j = 4 ∨ j = 5 ∨ j = 6 := by omega
  obtain ⟨z5, h5⟩ := h.c5
  obtain ⟨z6, h6⟩ := h.c6
  rcases this with rfl | rfl | rfl | rfl | rfl | rfl | rfl
  · exact ⟨_, h.c0⟩
  · exact ⟨_, h.c1⟩
  · exact ⟨_, h.c2⟩
  · exact ⟨_, h.c3⟩
  · exact ⟨_, h.c4⟩
  · exact ⟨_, h5⟩
  · exact ⟨_, h6⟩

theorem URaw.built {w : World} {U : Nat} (h : URaw w U) (B F : Nat) :
    UAt (((((((w.setCell ⟨U, 0, none⟩ (.slice (some ⟨B, 0, none⟩) 4096 4096)).setCell ⟨U, 1, none⟩ (.iface 46 (.pointer (some ⟨F, 0, none⟩)))).setCell ⟨U, 2, none⟩ (.int .i64 0)).setCell ⟨U, 3, none⟩ (.int .i64 0)).setCell ⟨U, 4, none⟩ .nilIface).setCell ⟨U, 5, none⟩ (.int .i64 (-1))).setCell ⟨U, 6, none⟩ (.int .i64 (-1))) U B F 0 0 := by
  obtain ⟨v0, h0⟩ := h.c 0 (by omega)
  obtain ⟨v1, h1⟩ := h.c 1 (by omega)
  obtain ⟨v2, h2⟩ := h.c 2 (by omega)
  obtain ⟨v3, h3⟩ := h.c 3 (by omega)
  obtain ⟨v4, h4⟩ := h.c 4 (by omega)
  obtain ⟨v5, h5⟩ := h.c 5 (by omega)
  obtain ⟨v6, h6⟩ := h.c 6 (by omega)
  refine ⟨by simp; exact h.hi, ?_, ?_, ?_, ?_, ?_, ⟨-1, ?_⟩, ⟨-1, ?_⟩, fun j => by simp only [World.frozen?_setCell]; exact h.fz j⟩
  · exact cell_oth (by omega) (cell_oth (by omega) (cell_oth (by omega) (cell_oth (by omega) (cell_oth (by omega) (cell_oth (by omega) (World.cell?_setCell_same _ _ _ h0))))))
  · exact cell_oth (by omega) (cell_oth (by omega) (cell_oth (by omega) (cell_oth (by omega) (cell_oth (by omega) (World.cell?_setCell_same _ _ _ (cell_oth (by omega) h1))))))
  · exact cell_oth (by omega) (cell_oth (by omega) (cell_oth (by omega) (cell_oth (by omega) (World.cell?_setCell_same _ _ _ (cell_oth (by omega) (cell_oth (by omega) h2))))))
  · exact cell_oth (by omega) (cell_oth (by omega) (cell_oth (by omega) (World.cell?_setCell_same _ _ _ (cell_oth (by omega) (cell_oth (by omega) (cell_oth (by omega) h3))))))
  · exact cell_oth (by omega) (cell_oth (by omega) (World.cell?_setCell_same _ _ _ (cell_oth (by omega) (cell_oth (by omega) (cell_oth (by omega) (cell_oth (by omega) h4))))))
  · exact cell_oth (by omega) (World.cell?_setCell_same _ _ _ (cell_oth (by omega) (cell_oth (by omega) (cell_oth (by omega) (cell_oth (by omega) (cell_oth (by omega) h5))))))
  · exact World.cell?_setCell_same _ _ _ (cell_oth (by omega) (cell_oth (by omega) (cell_oth (by omega) (cell_oth (by omega) (cell_oth (by omega) (cell_oth (by omega) h6))))))

theorem Trod.put {S : Nat → Prop} {a b : World} (h : Trod S a b) (k i : Nat) (hk : S k ∨ a.heap.size ≤ k) (x : Value) : Trod S a (b.setCell ⟨k, i, none⟩ x) := h.set (p := ⟨k, i, none⟩) hk x

set_option maxHeartbeats 400000 in
theorem reset_any (U B F : Nat) (w : World) (hu : URaw w U) :
    Calls Tryd.prog 124 #[.pointer (some ⟨U, 0, none⟩), .slice (some ⟨B, 0, none⟩) 4096 4096, .iface 46 (.pointer (some ⟨F, 0, none⟩))] w
      fun x w' => x = .returned (.tuple #[]) ∧ UAt w' U B F 0 0 ∧ Trod (fun k => k = U) w w' := by
  obtain ⟨v0, c0⟩ := hu.c 0 (by omega)
  obtain ⟨v1, c1⟩ := hu.c 1 (by omega)
  obtain ⟨v2, c2⟩ := hu.c 2 (by omega)
  obtain ⟨v3, c3⟩ := hu.c 3 (by omega)
  obtain ⟨v4, c4⟩ := hu.c 4 (by omega)
  obtain ⟨v5, c5⟩ := hu.c 5 (by omega)
  obtain ⟨v6, c6⟩ := hu.c 6 (by omega)
  have f0 := hu.fz 0
  have f1 := hu.fz 1
  have f2 := hu.fz 2
  have f3 := hu.fz 3
  have f4 := hu.fz 4
  have f5 := hu.fz 5
  have f6 := hu.fz 6
  go_enter Tryd.func124, Tryd.ntmps124
  go_wp2
  go_end0
  refine ⟨rfl, hu.built B F, ?_⟩
  exact ((((((((Trod.refl (S := fun k => k = U) w).put U 0 (Or.inl rfl) _).put U 1 (Or.inl rfl) _).put U 2 (Or.inl rfl) _).put U 3 (Or.inl rfl) _).put U 4 (Or.inl rfl) _).put U 5 (Or.inl rfl) _).put U 6 (Or.inl rfl) _)

set_option maxHeartbeats 1000000 in
theorem Reset_any (U B F r e : Nat) (w : World) (hu : UAt w U B F r e) :
    Calls Tryd.prog 116 #[.pointer (some ⟨U, 0, none⟩), .iface 46 (.pointer (some ⟨F, 0, none⟩))] w
      fun x w' => x = .returned (.tuple #[]) ∧ UAt w' U B F 0 0 ∧ Trod (fun k => k = U) w w' := by
  have c0 := hu.c0
  have hR := hide (reset_any U B F w hu.raw)
  have hq : ∀ W, (binOp .eql 76 (.iface 113 (.pointer (some ⟨U, 0, none⟩))) (.iface 46 (.pointer (some ⟨F, 0, none⟩)))).run Tryd.prog W = .ok (.bool false) W := fun W => run_eql_iface_types _ _ _ _ Tryd.underlying76 (by decide) W
  have qT : ∀ (w : World) (a : Option Addr) (n c n' c' : Nat), (binOp .eql 41 (.slice a n c) (.slice none n' c')).run Tryd.prog w = .ok (.bool a.isNone) w := fun w a n c n' c' => Lib.run_eql_slice_nil w _ _ a n c n' c' Tryd.underlying41
  go_enter Tryd.func116, Tryd.ntmps116
  go_wp2_with (go_at_call 124; (with_reducible refine (hR.out).mono ?_); rintro x w2 ⟨rfl, u2, t2⟩)
  go_end0
  exact ⟨rfl, u2, t2⟩

set_option maxHeartbeats 2000000 in
theorem MustSeek_any (V U B F D cap : Nat) (data : List UInt8) (pos r e k : Nat) (w : World) (hb : BAt w U B F D cap data pos r e) (hV0 : w.cell? ⟨V, 0, none⟩ = some (.pointer (some ⟨F, 0, none⟩))) (hV1 : w.cell? ⟨V, 1, none⟩ = some (.pointer (some ⟨U, 0, none⟩)))
    (hk : k ≤ data.length) (hVF : V ≠ F) (hVU : V ≠ U) :
    Calls Tryd.prog 97 #[.pointer (some ⟨V, 0, none⟩), .int .i64 k, .int .i64 0] w
      fun x w' => x = .returned (.int .i64 k) ∧ BAt w' U B F D cap data k 0 0 ∧ Trod (fun k => k = U ∨ k = F) w w' := by
  have hll := hb.f.ll
  have hub := hb.ub
  have hfu := hb.fu
  have hdf := hb.f.df
  obtain ⟨cs, hBr, hBc⟩ := hb.row
  have hS := hide (FSeek_start F D cap data _ k w hb.f (by omega))
  have hR := fun W h => hide (Reset_any U B F r e W h)
  have hu := hb.u
  go_enter Tryd.func97, Tryd.ntmps97
  go_wp2_with (go_at_call 45; (with_reducible refine (hS.out).mono ?_); rintro x w1 ⟨rfl, f1, t1⟩; have u1 := (hu.trod t1 (by omega)).trod (S := fun _ => False) (Trod.drew w1) id; have k0 : w1.cell? ⟨V, 0, none⟩ = _ := t1.cell hV0 hVF; have k1 : w1.cell? ⟨V, 1, none⟩ = _ := t1.cell hV1 hVF)
  have HR := hR _ u1
  go_region_held3 (fun W => W.cell? ⟨V, 0, none⟩ = some (.pointer (some ⟨F, 0, none⟩)) ∧ W.cell? ⟨V, 1, none⟩ = some (.pointer (some ⟨U, 0, none⟩))) ((first | exact ⟨k0, k1⟩ | exact ⟨n0, n1⟩ | assumption | (simp [*]; done)))
    (first | (go_at_call 116; (with_reducible refine (HR.out).mono ?_); rintro x w2 ⟨rfl, u2, t2⟩; have n0 : w2.cell? ⟨V, 0, none⟩ = _ := t2.cell k0 hVU; have n1 : w2.cell? ⟨V, 1, none⟩ = _ := t2.cell k1 hVU))
  go_wp2
  go_ret
  have f2 := f1.trod ((Trod.drew w1).trans t2) (by omega) (by omega)
  have tA : Trod (fun k => k = U ∨ k = F) w w2 := (t1.weaken fun k e => Or.inr e).trans (((Trod.drew w1).trans t2).weaken fun k e => Or.inl e)
  refine ⟨rfl, ⟨u2.hi, u2.c0, u2.c1, u2.c2, u2.c3, u2.c4, u2.c5, u2.c6, u2.fz, ⟨cs, (tA.block B (Array.getElem?_eq_some_iff.1 hBr).1 (by omega)).trans hBr, hBc⟩, ?_, ?_, Nat.le_refl _, by omega, by omega, hfu, hub⟩, tA⟩
  · intro i hi; rw [Nat.sub_self, List.take_zero] at hi; exact absurd hi (Nat.not_lt_zero _)
  · exact f2
end Go.Proofs.YtgdghaijjhbegaaDoor

/- The walks of the making of the buffered reader, and of the object reader's init. -/
namespace Go.Proofs.YtgdghaijjhbegaaDoor
open Go.RowKit
set_option maxRecDepth 100000

theorem URaw.trod {w w' : World} {U : Nat} (h : URaw w U) {S : Nat → Prop} (hw : Trod S w w') (hU : ¬ S U) : URaw w' U :=
  ⟨Nat.lt_of_lt_of_le h.hi hw.size, fun j hj => by obtain ⟨v, hv⟩ := h.c j hj; exact ⟨v, hw.cell hv hU⟩, fun j => hw.frozen h.hi (h.fz j) hU⟩

theorem URaw.new (w : World) (cs : Array Value) (t : TypeId) (hc : cs.size = 7) : URaw (w.alloc (.cells cs t)) w.heap.size := by
  refine ⟨by simp, fun j hj => ?_, fun j => frozen_of_heap _ _ _ _ _ (heap_alloc_new w _)⟩
  rw [cell_of_heap _ _ _ _ _ _ (heap_alloc_new w _)]
  exact ⟨_, Array.getElem?_eq_getElem (by omega)⟩

set_option maxHeartbeats 1000000 in
theorem NewReaderSize_any (F : Nat) (w : World) :
    Calls Tryd.prog 109 #[.iface 46 (.pointer (some ⟨F, 0, none⟩)), .int .i64 4096] w
      fun x w' => x = .returned (.pointer (some ⟨w.heap.size, 0, none⟩)) ∧ UAt w' w.heap.size (w.heap.size + 1) F 0 0 ∧ (∃ cs, w'.heap[w.heap.size + 1]? = some (.cells cs 5 (0, 0)) ∧ cs.size = 4096) ∧ Below w.heap.size w w' ∧ w.heap.size + 2 ≤ w'.heap.size := by
  have ta : ∀ W, (Instr.typeAssert (.iface 46 (.pointer (some ⟨F, 0, none⟩))) 76 113 true).run Tryd.prog W = .ok (.tuple #[.pointer none, .bool false]) W := fun _ => by kernel_rfl
  obtain ⟨cb, hcb, hmk⟩ := make_bytes (max 4096 16) 4096 (by decide) (by omega)
  have hraw := (URaw.new w #[.slice none 0 0, .nilIface, .int .i64 0, .int .i64 0, .nilIface, .int .i64 0, .int .i64 0] 142 rfl).trod (S := fun _ => False) (Trod.of_below (a := w.alloc _) ((Below.refl _ _).alloc (Nat.le_refl _) (.cells cb 5))) id
  have hrow := heap_alloc_new (w.alloc (.cells #[.slice none 0 0, .nilIface, .int .i64 0, .int .i64 0, .nilIface, .int .i64 0, .int .i64 0] 142)) (.cells cb 5)
  have hbl : Below w.heap.size w ((w.alloc (.cells #[.slice none 0 0, .nilIface, .int .i64 0, .int .i64 0, .nilIface, .int .i64 0, .int .i64 0] 142)).alloc (.cells cb 5)) := ((Below.refl _ _).alloc (Nat.le_refl _) _).alloc (by simp) _
  have HR := hide (reset_any w.heap.size (w.heap.size + 1) F _ hraw)
  have Hcb := hide hcb
  clear hcb
  go_enter Tryd.func109, Tryd.ntmps109
  go_wp2_with (go_at_call 124; (with_reducible refine (HR.out).mono ?_); rintro x w2 ⟨rfl, u2, t2⟩)
  go_ret
  refine ⟨rfl, u2, ⟨cb, ?_, Hcb.out⟩, hbl.trans (t2.below (by simp; omega) (fun k hk e => by omega)), by have := t2.size; simp at this; omega⟩
  rw [t2.block _ (by simp) (by show ¬ _ = _; omega)]
  simpa using hrow

set_option maxHeartbeats 400000 in
theorem newBioReader_any (F D cap : Nat) (data : List UInt8) (pos : Nat) (w : World) (hf : PFile w F D cap data pos) (hpos : pos ≤ data.length) :
    Calls Tryd.prog 67 #[.pointer (some ⟨F, 0, none⟩)] w
      fun x w' => ∃ U B V, x = .returned (.pointer (some ⟨V, 0, none⟩)) ∧ w.heap.size ≤ U ∧ B < V ∧ BAt w' U B F D cap data pos 0 0 ∧ w'.cell? ⟨V, 0, none⟩ = some (.pointer (some ⟨F, 0, none⟩)) ∧ w'.cell? ⟨V, 1, none⟩ = some (.pointer (some ⟨U, 0, none⟩)) ∧ Below w.heap.size w w' := by
  have hR := hide (NewReaderSize_any F w)
  have hdf := hf.df
  have hfw := hf.hi
  go_enter Tryd.func67, Tryd.ntmps67
  go_wp2_with (first | (go_at_call 90; go_in) | (go_at_call 109; (with_reducible refine (hR.out).mono ?_); rintro x w2 ⟨rfl, u2, ⟨cs, hB2, hcs⟩, hb2, hs2⟩))
  go_ret
  have hb3 : Below w2.heap.size w2 (w2.alloc (.cells #[.pointer (some ⟨F, 0, none⟩), .pointer (some ⟨w.heap.size, 0, none⟩)] 115)) := (Below.refl _ _).alloc (Nat.le_refl _) _
  have hV := heap_alloc_new w2 (.cells #[.pointer (some ⟨F, 0, none⟩), .pointer (some ⟨w.heap.size, 0, none⟩)] 115)
  have u3 := u2.trod (S := fun _ => False) (Trod.of_below hb3) id
  have hbt := hb2.trans (hb3.mono hb2.size)
  have f3 := hf.trod (S := fun _ => False) (Trod.of_below hbt) id id
  refine ⟨w.heap.size, w.heap.size + 1, w2.heap.size, rfl, Nat.le_refl _, by omega, ⟨u3.hi, u3.c0, u3.c1, u3.c2, u3.c3, u3.c4, u3.c5, u3.c6, u3.fz, ⟨cs, (hb3.block _ (by omega)).trans hB2, hcs⟩, ?_, f3, Nat.le_refl _, by omega, by omega, hfw, by omega⟩, ?_, ?_, hbt⟩
  · intro i hi; rw [Nat.sub_self, List.take_zero] at hi; exact absurd hi (Nat.not_lt_zero _)
  · rw [cell_of_heap _ _ _ _ _ _ hV]; rfl
  · rw [cell_of_heap _ _ _ _ _ _ hV]; rfl
end Go.Proofs.YtgdghaijjhbegaaDoor
