/- The walk of (*Archive).AddEntry. -/
import Derived.Test.YtgdghaijjhbegaaGreatDoorAddA
import Derived.Deep.RegionHeldLaw
namespace Go.Proofs.YtgdghaijjhbegaaGreatDoor
open Go.RowKit
set_option maxRecDepth 100000

/-- What an entry's writing asks of the world: the tables of numbers, the end's mark. -/
structure WLaid (w : World) (ea : Addr) (F : Nat) : Prop where
  num : NumLaid w
  eof : w.cell? ⟨0, 0, none⟩ = some (.iface 132 (.pointer (some ea)))
  gf : 0 < F
  nf : 21 < F

theorem NumLaid.belowF {w w' : World} (h : NumLaid w) {B : Nat} (hb : Below B w w') (hB : 21 < B) : NumLaid w' :=
  ⟨var?_below hb gPow (by omega) h.pow, (hb.cell (p := ⟨21, 7, none⟩) hB).trans h.tz⟩
theorem WLaid.below {w w' : World} {ea : Addr} {F : Nat} (h : WLaid w ea F) (hb : Below F w w') : WLaid w' ea F :=
  ⟨h.num.belowF hb h.nf, (hb.cell (p := ⟨0, 0, none⟩) h.gf).trans h.eof, h.gf, h.nf⟩

theorem bytesAt_one (w : World) : BytesAt (w.alloc (.cells #[.int .u8 0] 5)) w.heap.size 0 [0] :=
  BytesAt.of_prefix _ _ _ _ (0, 0) [0] [] (heap_alloc_new w _) rfl

set_option maxHeartbeats 4000000 in
theorem AddEntry_any (F A S : Nat) (v : Value) (bs : List UInt8) (k : Nat) (e : Ent) (ea : Addr) (w : World) (hA : AddAt w F A v bs k) (hL : WLaid w ea F) (hs : SRAt w S e.data 0)
    (hSt : ∃ cs fz, w.heap[S]? = some (.cells cs 90 fz)) (hSF : F < S) (hSA : S ≠ A) (hvS : v.ownBlock ≠ some S) (hok : e.okB = true) (hev : bs.length % 2 = 0) (hx : bs.length ≤ 549755813888) (hk : k ≤ 1000000) :
    Calls Tryz.prog 22 #[.pointer (some ⟨A, 0, none⟩), .int .i64 e.kind, .string ⟨e.name.toArray⟩, .int .i64 e.time, .int .i64 e.user, .int .i64 e.group, .int .u32 e.mode, .int .i64 e.data.length, .iface 58 (.pointer (some ⟨S, 0, none⟩))] w
      fun r w' => r = .returned (.tuple #[]) ∧ ∃ v', AddAt w' F A v' (bs ++ e.bytes) (k + 1) ∧ Below F w w' ∧
        ∀ j cs fz, j ≠ F → j ≠ S → j ≠ A → w.heap[j]? = some (.cells cs 31 fz) → w'.heap[j]? = some (.cells cs 31 fz) := by
  obtain ⟨h0, h1, h2, h3, h4, h5⟩ := okB_bounds hok
  have hFS : ∀ j, j = F ∨ j = S → j = F ∨ (j < w.heap.size ∧ ∀ cs, w.heap[j]? ≠ some (.cells cs 53 (0, 0)) ∧ j ≠ A) := by
    rintro j (e | rfl)
    · exact Or.inl e
    · refine Or.inr ⟨hs.hi, fun cs => ⟨fun h => ?_, hSA⟩⟩
      obtain ⟨cs', fz, h'⟩ := hSt
      rw [h'] at h
      injection h with h
      injection h with _ h6
      exact absurd h6 (by decide)
  have hlen : e.header.length = 60 := Ent.header_length hok
  have hEH : ∀ W, NumLaid W → Hid (Calls Tryz.prog 42 #[.string ⟨(padTo 16 e.name).toArray⟩, .int .i64 e.time, .int .i64 e.user, .int .i64 e.group, .int .u32 e.mode, .int .i64 e.data.length] W
      fun r w' => r = .returned (.string ⟨e.header.toArray⟩) ∧ Below W.heap.size W w' ∧ NumLaid w') := fun W hN =>
    (entryHeader_any (padTo 16 e.name) e.time e.user e.group e.mode e.data.length W (by rw [padTo_length]; omega) hN h1.1 (by omega) h2.1 (by omega) h3.1 (by omega) h4.1 (by omega) (by omega) (by omega)).mono fun r w' h => h
  have hWr : ∀ W b cap, FileAt W F v bs → BytesAt W b 0 e.header → e.header.length ≤ cap → Hid (Calls Tryz.prog 40 #[.pointer (some ⟨F, 0, none⟩), .slice (some ⟨b, 0, none⟩) e.header.length cap] W
      fun r w' => r = .returned (.tuple #[.int .i64 60, .nilIface]) ∧ ∃ v', FileAt w' F v' (bs ++ e.header) ∧ Wrote (· = F) W v w' v') := fun W b cap hf hy hc =>
    (Write_end F v bs e.header b 0 cap W hf hy hc (by omega)).mono fun r w' h => ⟨by rw [h.1, hlen]; rfl, h.2⟩
  have hpad : bs ++ e.bytes = bs ++ e.header ++ e.data ++ padB e.data := by simp [Ent.bytes]
  rw [hpad]
  have hx2 : (bs ++ e.header).length + e.data.length ≤ 1099511627776 := by rw [List.length_append]; omega
  have hxl : (bs ++ e.header ++ e.data).length + 1 ≤ 1099511627776 := by rw [List.length_append, List.length_append]; omega
  have hW1 : ∀ W b v6, FileAt W F v6 (bs ++ e.header ++ e.data) → BytesAt W b 0 [0] → Hid (Calls Tryz.prog 40 #[.pointer (some ⟨F, 0, none⟩), .slice (some ⟨b, 0, none⟩) 1 1] W
      fun r w' => r = .returned (.tuple #[.int .i64 1, .nilIface]) ∧ ∃ v', FileAt w' F v' (bs ++ e.header ++ e.data ++ [0]) ∧ Wrote (· = F) W v6 w' v') := fun W b v6 hf hy =>
    Write_end F v6 (bs ++ e.header ++ e.data) [0] b 0 1 W hf hy (Nat.le_refl _) hxl
  clear hpad
  generalize e.header = hd at *
  have Hlen := hide hlen
  clear hlen
  have hfl := hA.hi
  have hFA := hA.fa
  have kA0 := hA.c0
  have hdl : (e.data.length : Int) ≤ 1048576 := by omega
  rcases Nat.mod_two_eq_zero_or_one e.data.length with hp | hp
  · have hpb : padB e.data = [] := by unfold padB; rw [if_neg (by omega)]
    rw [hpb, List.append_nil]
    have hand : bits BinOp.and IntKind.i64 ((bs.length : Int) + (e.data.length : Int)) 1 = 0 := by
      have := and1 (bs.length + e.data.length) (by omega)
      rw [show (bs.length + e.data.length) % 2 = 0 by omega] at this
      push_cast at this; exact this
    go_enter Tryz.func22, Tryz.ntmps22
    go_wp2_with (go_at_call 41; (with_reducible refine (Seek_end F v bs _ hA.f (by omega)).mono ?_); rintro r w1 ⟨rfl, hf1, hw1⟩; have hA1 := hA.wrote hw1 hf1 (fun j e => Or.inl e); have kA1 := hA1.c0)
    have hL1 := hL.below (hw1.below (B := F) (by omega) (fun j hj e => by omega) (fun j hj => hA.f.own_ne (by omega)))
    have hN1 := hL1.num.drew
    have hA1s := hA1.hi
    go_region_held_law (fun W => W.cell? ⟨A, 0, none⟩ = some (.pointer (some ⟨F, 0, none⟩))) ((first | assumption | (simp [*]; done)))
      (first
        | (go_at_call 43; (with_reducible refine (exactly16_any _ _ h0).mono ?_); rintro r w2 ⟨rfl, rfl⟩)
        | (go_at_call 42; (with_reducible refine ((hEH _ hN1).out).mono ?_); rintro r w3 ⟨rfl, hb3, hN3⟩; obtain ⟨w4, cap4, hv4, hc4, hb4, hy4⟩ := to_bytes w3 hd; have kA3 : w3.cell? ⟨A, 0, none⟩ = _ := (hb3.cell (p := ⟨A, 0, none⟩) (by simp; exact hA1s)).trans kA1; have hs3 := hb3.size; simp only [World.size_drew] at hs3; have kA4 : w4.cell? ⟨A, 0, none⟩ = _ := (hb4.cell (p := ⟨A, 0, none⟩) (by simp; omega)).trans kA3; have hf4 : FileAt w4 F v bs := ((show FileAt w1.drew F v bs from ⟨hf1.hi, hf1.c1, hf1.c2, hf1.f1, hf1.f2, hf1.own⟩).below hb3).below hb4)
        | (go_at_call 40; (with_reducible refine ((hWr _ _ _ hf4 hy4 hc4).out).mono ?_); rintro r w5 ⟨rfl, v5, hf5, hw5⟩; have hw15 : Wrote (· = F) w v w5 v5 := (hw1.trans (Wrote.of_below (show Below w1.heap.size w1 w4 from (Below.refl _ w1).drew.trans (hb3.trans (hb4.mono hb3.size))))).trans hw5; have hA5 := hA.wrote hw15 hf5 (fun j e => Or.inl e); have kA5 := hA5.c0))
    have hs5 := hs.wrote hw15 (by omega) hvS
    have hL5 := hL.below (hw15.below (B := F) (by omega) (fun j hj e => by omega) (fun j hj => hA.f.own_ne (by omega)))
    have hv5S : v5.ownBlock ≠ some S := by
      rcases hw15.row with e | ⟨j, e, hj⟩
      · rw [e]; exact hvS
      · have := hs.hi; rw [e]; simp; omega
    have hCN := hide (CopyN_any F S v5 (bs ++ hd) e.data ea w5 hf5 hs5 hL5.eof hL5.gf (by have := hL.gf; omega) hx2 (by omega) hv5S)
    have hFS5 : ∀ j, j = F ∨ j = S → j = F ∨ (j < w5.heap.size ∧ ∀ cs, w5.heap[j]? ≠ some (.cells cs 53 (0, 0)) ∧ j ≠ A) := by
      rintro j (e | e)
      · exact Or.inl e
      · obtain ⟨cs', fz, h'⟩ := hSt
        refine Or.inr ⟨e ▸ hs5.hi, fun cs => ⟨fun h => ?_, e ▸ hSA⟩⟩
        rw [e, hw15.block S hs.hi (by omega) hvS, h'] at h
        injection h with h
        injection h with _ h6
        exact absurd h6 (by decide)
    have hvs1 : ∀ u ∈ [Value.string ⟨e.name.toArray⟩, .int .i64 e.kind, .int .i64 e.time, .int .i64 e.user, .int .i64 e.group, .int .u32 e.mode, .int .i64 ((bs.length : Int) + 60), .int .i64 e.data.length, .pointer none], u.oneCell' = true := by
      simp [Value.oneCell']
    go_wp2_with (first
      | (go_at_call 44; (with_reducible refine (hCN.out).mono ?_); rintro r w6 ⟨rfl, v6, hf6, hw6⟩; have hA6 := hA5.wrote hw6 hf6 hFS5; obtain ⟨p6, c6, es6, k61, ho6⟩ := hA6.c1; have kA6 := hA6.c0; have z61 := hA6.f1; obtain ⟨p7, c7, w7, happ, hg7, ho7⟩ := entries_append w6 A k c6 p6 es6 _ ho6 hA6.hi hk rfl hvs1; have hA7 := hA6.appended k61 ho6 hg7 ho7; have hne7 : some A ≠ (Value.slice p6 k c6).ownBlock := (fun q => by have := (ho6.lt A q.symm).1; omega); have k71 : w7.cell? ⟨A, 1, none⟩ = _ := hg7.cell k61 hne7; have z71 : w7.frozen? ⟨A, 1, none⟩ = false := (World.frozen?_of_block (w := w6) (hg7.block A hA6.hi hne7)).trans z61)
      | (at_builtin; refine wpList_run rfl (run_append_exec _ _ _ _ rfl rfl rfl happ) ?_))
    go_end0
    exact ⟨rfl, v6, hA7.1, (hw15.below (B := F) (by omega) (fun j hj e => by omega) (fun j hj => hA.f.own_ne (by omega))).trans ((hw6.below (B := F) (by have := hf5.hi; omega) (fun j hj e => by omega) (fun j hj => hf5.own_ne (by omega))).trans hA7.2),
      fun j cs fz a1 a2 a3 hj => appended_keeps ho6 hg7 (hf5.keeps hw6 (hA.f.keeps hw15 hj a1) (fun a => a.elim a1 a2)) a3⟩
  · have hpb : padB e.data = [0] := by unfold padB; rw [if_pos hp]
    rw [hpb]
    have hand : bits BinOp.and IntKind.i64 ((bs.length : Int) + (e.data.length : Int)) 1 = 1 := by
      have := and1 (bs.length + e.data.length) (by omega)
      rw [show (bs.length + e.data.length) % 2 = 1 by omega] at this
      push_cast at this; exact this
    go_enter Tryz.func22, Tryz.ntmps22
    go_wp2_with (go_at_call 41; (with_reducible refine (Seek_end F v bs _ hA.f (by omega)).mono ?_); rintro r w1 ⟨rfl, hf1, hw1⟩; have hA1 := hA.wrote hw1 hf1 (fun j e => Or.inl e); have kA1 := hA1.c0)
    have hL1 := hL.below (hw1.below (B := F) (by omega) (fun j hj e => by omega) (fun j hj => hA.f.own_ne (by omega)))
    have hN1 := hL1.num.drew
    have hA1s := hA1.hi
    go_region_held_law (fun W => W.cell? ⟨A, 0, none⟩ = some (.pointer (some ⟨F, 0, none⟩))) ((first | assumption | (simp [*]; done)))
      (first
        | (go_at_call 43; (with_reducible refine (exactly16_any _ _ h0).mono ?_); rintro r w2 ⟨rfl, rfl⟩)
        | (go_at_call 42; (with_reducible refine ((hEH _ hN1).out).mono ?_); rintro r w3 ⟨rfl, hb3, hN3⟩; obtain ⟨w4, cap4, hv4, hc4, hb4, hy4⟩ := to_bytes w3 hd; have kA3 : w3.cell? ⟨A, 0, none⟩ = _ := (hb3.cell (p := ⟨A, 0, none⟩) (by simp; exact hA1s)).trans kA1; have hs3 := hb3.size; simp only [World.size_drew] at hs3; have kA4 : w4.cell? ⟨A, 0, none⟩ = _ := (hb4.cell (p := ⟨A, 0, none⟩) (by simp; omega)).trans kA3; have hf4 : FileAt w4 F v bs := ((show FileAt w1.drew F v bs from ⟨hf1.hi, hf1.c1, hf1.c2, hf1.f1, hf1.f2, hf1.own⟩).below hb3).below hb4)
        | (go_at_call 40; (with_reducible refine ((hWr _ _ _ hf4 hy4 hc4).out).mono ?_); rintro r w5 ⟨rfl, v5, hf5, hw5⟩; have hw15 : Wrote (· = F) w v w5 v5 := (hw1.trans (Wrote.of_below (show Below w1.heap.size w1 w4 from (Below.refl _ w1).drew.trans (hb3.trans (hb4.mono hb3.size))))).trans hw5; have hA5 := hA.wrote hw15 hf5 (fun j e => Or.inl e); have kA5 := hA5.c0))
    have hs5 := hs.wrote hw15 (by omega) hvS
    have hL5 := hL.below (hw15.below (B := F) (by omega) (fun j hj e => by omega) (fun j hj => hA.f.own_ne (by omega)))
    have hv5S : v5.ownBlock ≠ some S := by
      rcases hw15.row with e | ⟨j, e, hj⟩
      · rw [e]; exact hvS
      · have := hs.hi; rw [e]; simp; omega
    have hCN := hide (CopyN_any F S v5 (bs ++ hd) e.data ea w5 hf5 hs5 hL5.eof hL5.gf (by have := hL.gf; omega) hx2 (by omega) hv5S)
    have hFS5 : ∀ j, j = F ∨ j = S → j = F ∨ (j < w5.heap.size ∧ ∀ cs, w5.heap[j]? ≠ some (.cells cs 53 (0, 0)) ∧ j ≠ A) := by
      rintro j (e | e)
      · exact Or.inl e
      · obtain ⟨cs', fz, h'⟩ := hSt
        refine Or.inr ⟨e ▸ hs5.hi, fun cs => ⟨fun h => ?_, e ▸ hSA⟩⟩
        rw [e, hw15.block S hs.hi (by omega) hvS, h'] at h
        injection h with h
        injection h with _ h6
        exact absurd h6 (by decide)
    have hvs1 : ∀ u ∈ [Value.string ⟨e.name.toArray⟩, .int .i64 e.kind, .int .i64 e.time, .int .i64 e.user, .int .i64 e.group, .int .u32 e.mode, .int .i64 ((bs.length : Int) + 60), .int .i64 e.data.length, .pointer none], u.oneCell' = true := by
      simp [Value.oneCell']
    go_wp2_with (first
      | (go_at_call 44; (with_reducible refine (hCN.out).mono ?_); rintro r w6 ⟨rfl, v6, hf6, hw6⟩; have hA6 := hA5.wrote hw6 hf6 hFS5; have kA6 := hA6.c0; have hf61 := hf6.below ((Below.refl _ _).alloc (Nat.le_refl _) (.cells #[.int .u8 0] 5)))
      | (go_at_call 40; (with_reducible refine ((hW1 _ _ _ hf61 (bytesAt_one w6)).out).mono ?_); rintro r w65 ⟨rfl, v65, hf65, hw65⟩; have hw66 : Wrote (· = F) w6 v6 w65 v65 := (Wrote.of_below ((Below.refl _ _).alloc (Nat.le_refl _) _)).trans hw65; have hA65 := hA6.wrote hw66 hf65 (fun j e => Or.inl e); obtain ⟨p6, c6, es6, k61, ho6⟩ := hA65.c1; have kA65 := hA65.c0; have z61 := hA65.f1; obtain ⟨p7, c7, w7, happ, hg7, ho7⟩ := entries_append w65 A k c6 p6 es6 _ ho6 hA65.hi hk rfl hvs1; have hA7 := hA65.appended k61 ho6 hg7 ho7; have hne7 : some A ≠ (Value.slice p6 k c6).ownBlock := (fun q => by have := (ho6.lt A q.symm).1; omega); have k71 : w7.cell? ⟨A, 1, none⟩ = _ := hg7.cell k61 hne7; have z71 : w7.frozen? ⟨A, 1, none⟩ = false := (World.frozen?_of_block (w := w65) (hg7.block A hA65.hi hne7)).trans z61)
      | (at_builtin; refine wpList_run rfl (run_append_exec _ _ _ _ rfl rfl rfl happ) ?_))
    go_end0
    exact ⟨rfl, v65, hA7.1, (hw15.below (B := F) (by omega) (fun j hj e => by omega) (fun j hj => hA.f.own_ne (by omega))).trans ((hw6.below (B := F) (by have := hf5.hi; omega) (fun j hj e => by omega) (fun j hj => hf5.own_ne (by omega))).trans
      ((hw66.below (B := F) (by have := hf6.hi; omega) (fun j hj e => by omega) (fun j hj => hf6.own_ne (by omega))).trans hA7.2)),
      fun j cs fz a1 a2 a3 hj => appended_keeps ho6 hg7 (hf6.keeps hw66 (hf5.keeps hw6 (hA.f.keeps hw15 hj a1) (fun a => a.elim a1 a2)) a1) a3⟩
end Go.Proofs.YtgdghaijjhbegaaGreatDoor
