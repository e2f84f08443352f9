/- The walks of NewFile, New and what begins an archive. -/
import Derived.Test.YtgdghaijjhbegaaGreatDoorAddB
import Derived.Test.YtgdghaijjhbegaaGreatDoorAgain
namespace Go.Proofs.YtgdghaijjhbegaaGreatDoor
open Go.RowKit
set_option maxRecDepth 100000

theorem FileAt.drew {w : World} {F : Nat} {v : Value} {bs : List UInt8} (h : FileAt w F v bs) : FileAt w.drew F v bs := ⟨h.hi, h.c1, h.c2, h.f1, h.f2, h.own⟩

theorem append_nil_nil (W : World) : (Builtin.append_ #[42, 42] 42 #[.slice none 0 0, .slice none 0 0]).run Tryz.prog W = .ok (.slice none 0 0) W := by kernel_rfl

set_option maxHeartbeats 400000 in
theorem NewFile_nil (nm : ByteArray) (w : World) :
    Calls Tryz.prog 19 #[.string nm, .slice none 0 0] w
      fun e w' => e = .returned (.pointer (some ⟨w.heap.size, 0, none⟩)) ∧ FileAt w' w.heap.size (.slice none 0 0) [] ∧ Below w.heap.size w w' ∧ w'.heap.size = w.heap.size + 1 := by
  go_enter Tryz.func19, Tryz.ntmps19
  go_wp2_with (at_builtin; refine wpList_run rfl (run_append_exec _ _ _ _ rfl rfl rfl (append_nil_nil _)) ?_)
  go_ret
  refine ⟨rfl, ⟨by simp, ?_, ?_, frozen_of_heap _ _ _ _ _ (heap_alloc_new w _), frozen_of_heap _ _ _ _ _ (heap_alloc_new w _), World.ownsRow_nil _ _ _ _⟩, (Below.refl _ _).alloc (Nat.le_refl _) _, by simp⟩
  · rw [cell_of_heap _ _ _ _ _ _ (heap_alloc_new w _)]; rfl
  · rw [cell_of_heap _ _ _ _ _ _ (heap_alloc_new w _)]; rfl

set_option maxHeartbeats 1000000 in
theorem New_any (F : Nat) (w : World) (hf : FileAt w F (.slice none 0 0) []) :
    Calls Tryz.prog 21 #[.pointer (some ⟨F, 0, none⟩)] w
      fun e w' => ∃ A v', e = .returned (.tuple #[.pointer (some ⟨A, 0, none⟩), .nilIface]) ∧ AddAt w' F A v' magicB 0 ∧ Below F w w' := by
  have hW1 : ∀ W b, FileAt W F (.slice none 0 0) [] → BytesAt W b 0 magicB → Hid (Calls Tryz.prog 40 #[.pointer (some ⟨F, 0, none⟩), .slice (some ⟨b, 0, none⟩) 8 8] W
      fun r w' => r = .returned (.tuple #[.int .i64 8, .nilIface]) ∧ ∃ v', FileAt w' F v' magicB ∧ Wrote (· = F) W (.slice none 0 0) w' v') := fun W b hf hy =>
    Write_end F (.slice none 0 0) [] magicB b 0 8 W hf hy (by decide) (by decide)
  obtain ⟨W1, fz1, hcv, hb1, hg1, hs1⟩ := bytes_again (w.alloc (.cells #[.int .u8 33, .int .u8 60, .int .u8 97, .int .u8 114, .int .u8 99, .int .u8 104, .int .u8 62, .int .u8 10] 5)) w.heap.size 8 8 _ _ _ (heap_alloc_new w _)
  have hby : BytesAt W1 w.heap.size 0 magicB := BytesAt.of_prefix _ _ _ _ _ magicB [] hg1 rfl
  have hbw : Below w.heap.size w W1 := ((Below.refl _ _).alloc (Nat.le_refl _) _).trans hb1
  go_enter Tryz.func21, Tryz.ntmps21
  go_wp2_with (first | (go_at_call 33; go_in) | (go_at_call 40; (with_reducible refine ((hW1 _ _ (hf.below hbw) hby).out).mono ?_); rintro r w2 ⟨rfl, v2, hf2, hw2⟩))
  go_ret2
  have hw : Wrote (· = F) w (.slice none 0 0) w2 v2 := (Wrote.of_below hbw).trans hw2
  have hb : Below w2.heap.size w2 (w2.alloc (.cells #[.pointer (some ⟨F, 0, none⟩), .slice none 0 0] 45)) := (Below.refl _ _).alloc (Nat.le_refl _) _
  refine ⟨w2.heap.size, v2, rfl, ⟨hf2.below hb, by simp, hf2.hi, fun e => ?_, ?_, frozen_of_heap _ _ _ _ _ (heap_alloc_new w2 _), .slice none 0 0, [], ?_, World.ownsRow_nil _ _ _ _⟩, ?_⟩
  · have := (hf2.own.lt _ e).2; omega
  · rw [cell_of_heap _ _ _ _ _ _ (heap_alloc_new w2 _)]; rfl
  · rw [cell_of_heap _ _ _ _ _ _ (heap_alloc_new w2 _)]; rfl
  · exact (hw.below (B := F) (by have := hf.hi; omega) (fun j hj e => by omega) (fun j hj => by simp [Value.ownBlock])).trans (hb.mono (by have := hf2.hi; omega))
end Go.Proofs.YtgdghaijjhbegaaGreatDoor

/- The walk of impl.Write. -/
namespace Go.Proofs.YtgdghaijjhbegaaGreatDoor
open Go.RowKit
set_option maxRecDepth 100000

theorem AddAt.below {w w' : World} {F A : Nat} {v : Value} {bs : List UInt8} {k : Nat} (h : AddAt w F A v bs k) (hb : Below w.heap.size w w') : AddAt w' F A v bs k :=
  h.wrote (T := fun _ => False) (Wrote.of_below hb) (h.f.below hb) (fun _ e => e.elim)

theorem AddAt.own_lt {w : World} {F A : Nat} {v : Value} {bs : List UInt8} {k : Nat} (h : AddAt w F A v bs k) {j : Nat} (hj : w.heap.size ≤ j) : v.ownBlock ≠ some j := fun e => by
  have := (h.f.own.lt _ e).2; omega

theorem SRAt.new (w : World) (xs : List UInt8) (i : Nat) (k : Int) : SRAt (w.alloc (.cells #[.string ⟨xs.toArray⟩, .int .i64 i, .int .i64 k] 90)) w.heap.size xs i :=
  ⟨by simp, by rw [cell_of_heap _ _ _ _ _ _ (heap_alloc_new w _)]; rfl, by rw [cell_of_heap _ _ _ _ _ _ (heap_alloc_new w _)]; rfl, ⟨k, by rw [cell_of_heap _ _ _ _ _ _ (heap_alloc_new w _)]; rfl⟩,
    frozen_of_heap _ _ _ _ _ (heap_alloc_new w _), frozen_of_heap _ _ _ _ _ (heap_alloc_new w _)⟩

set_option maxHeartbeats 400000 in
theorem NewReader_any (xs : List UInt8) (w : World) :
    Calls Tryz.prog 24 #[.string ⟨xs.toArray⟩] w
      fun e w' => e = .returned (.pointer (some ⟨w.heap.size, 0, none⟩)) ∧ SRAt w' w.heap.size xs 0 ∧ Below w.heap.size w w' ∧ ∃ cs fz, w'.heap[w.heap.size]? = some (.cells cs 90 fz) := by
  go_enter Tryz.func24, Tryz.ntmps24
  go_wp2
  go_ret
  exact ⟨rfl, SRAt.new w xs 0 (-1), (Below.refl _ _).alloc (Nat.le_refl _) _, _, _, heap_alloc_new w _⟩

set_option maxHeartbeats 400000 in
theorem like_any (m z : Int) (w : World) : Calls Tryz.prog 23 #[.int .u32 z, .int .u32 m] w fun e w' => e = .returned (.int .u32 m) ∧ w = w' := by
  go_enter Tryz.func23, Tryz.ntmps23
  go_wp2
  go_ret
  exact ⟨rfl, rfl⟩

set_option maxHeartbeats 400000 in
theorem Bytes_any (F g cap : Nat) (bs : List UInt8) (w : World) (hf : FileAt w F (.slice (some ⟨g, 0, none⟩) bs.length cap) bs) :
    Calls Tryz.prog 25 #[.pointer (some ⟨F, 0, none⟩)] w fun e w' => e = .returned (.slice (some ⟨g, 0, none⟩) bs.length cap) ∧ w = w' := by
  have c1 := hf.c1
  go_enter Tryz.func25, Tryz.ntmps25
  go_wp2
  go_ret
  exact ⟨rfl, rfl⟩

theorem archB_even (es : List Ent) (h : es.all Ent.okB = true) : (archB es).length % 2 = 0 := by
  have : (entsB es).length % 2 = 0 := by
    induction es with
    | nil => simp [entsB]
    | cons e es ih =>
      simp only [List.all_cons, Bool.and_eq_true] at h
      have h1 := Ent.bytes_length h.1
      have := ih h.2
      simp only [entsB, List.map_cons, List.flatten_cons, List.length_append] at this ⊢
      omega
  simp only [archB, List.length_append, magicB, List.length_cons, List.length_nil]
  omega

theorem archB_le (es : List Ent) (h : es.all Ent.okB = true) (hl : es.length ≤ 200) : (archB es).length ≤ 1000000000 := by
  have := entsB_length_le es h
  simp only [archB, List.length_append, magicB, List.length_cons, List.length_nil] at this ⊢
  have : es.length * 1048637 ≤ 200 * 1048637 := Nat.mul_le_mul_right _ hl
  omega

set_option maxHeartbeats 4000000 in
theorem Write_any (p : Option Addr) (b o cap : Nat) (es : List Ent) (ea : Addr) (w : World) (hp : es ≠ [] → p = some ⟨b, o, none⟩) (hw : EntsAt w b o es) (hok : entriesOkB es = true) (hB : b < w.heap.size) (hN : NumLaid w)
    (hE : w.cell? ⟨0, 0, none⟩ = some (.iface 132 (.pointer (some ea)))) :
    Calls Tryz.prog 15 #[.slice p es.length cap] w fun e w' => e = .returned (.tuple #[.string ⟨(archB es).toArray⟩, .bool true]) ∧ Below w.heap.size w w' := by
  unfold entriesOkB at hok
  simp only [Bool.and_eq_true, decide_eq_true_eq] at hok
  obtain ⟨hall, hl⟩ := hok
  have hl' : es.length ≤ 200 := by omega
  have hG := World.block_lt_of_cell? w _ hE
  have hGs : 0 < w.heap.size := hG
  have hNs := hN.size
  have hL : WLaid w ea w.heap.size := ⟨hN, hE, hGs, hNs⟩
  go_enter Tryz.func15, Tryz.ntmps15
  go_wp2_with (first
    | (go_at_call 19; (with_reducible refine (NewFile_nil _ _).mono ?_); rintro e w1 ⟨rfl, hf1, hb1, hs1⟩)
    | (go_at_call 21; (with_reducible refine (New_any _ _ hf1).mono ?_); rintro e w2 ⟨A, v2, rfl, hA2, hb2⟩))
  go_loopw [19] (fun s wr => ∃ (k : Nat) (v : Value), k ≤ es.length ∧ s = .int .i64 k ∧ AddAt wr w.heap.size A v (archB (es.take k)) k ∧ Below w.heap.size w wr) (fun s _ => es.length - (intOf s).toNat)
  case atStart => exact ⟨0, v2, Nat.zero_le _, rfl, by rw [List.take_zero]; exact hA2, hb1.trans hb2⟩
  case round =>
    obtain ⟨k, v, hk, rfl, hA, hb⟩ := hrel
    by_cases hlt : k < es.length
    · obtain rfl := hp (by rintro rfl; exact absurd hlt (Nat.not_lt_zero _))
      have hcells := (hw.below hb hB) k hlt
      have c0 : wr.cell? ⟨b, o + k * 8, none⟩ = _ := hcells 0 _ rfl
      have c1 := hcells 1 _ rfl
      have c2 := hcells 2 _ rfl
      have c3 := hcells 3 _ rfl
      have c4 := hcells 4 _ rfl
      have c5 := hcells 5 _ rfl
      have c6 := hcells 6 _ rfl
      have c7 := hcells 7 _ rfl
      have hx : es[k].okB = true := by rw [List.all_eq_true] at hall; exact hall _ (List.getElem_mem hlt)
      have ht : archB (es.take (k + 1)) = archB (es.take k) ++ es[k].bytes := by
        rw [List.take_succ_eq_append_getElem hlt]; simp only [archB, entsB_snoc, List.append_assoc]
      have hev := archB_even _ (all_take hall k)
      have hle := archB_le _ (all_take hall k) (by rw [List.length_take]; omega)
      generalize es[k] = x at *
      clear hcells
      generalize archB (es.take k) = acc at *
      have Ht := hide ht
      clear ht
      have hAE := fun W S h1 h2 h3 h4 h5 h6 h7 => hide (AddEntry_any w.heap.size A S v acc k x ea W h1 h2 h3 h4 h5 h6 h7 hx hev (by omega) (by omega))
      obtain ⟨_, _, _, _, h4, h5⟩ := okB_bounds hx
      have hwrap : IntKind.u32.wrap x.mode = x.mode := by
        show x.mode % 4294967296 = x.mode
        omega
      have hfd : ∀ W, (Instr.field 53 (.agg #[.string ⟨#[]⟩, .int .i64 0, .int .i64 0, .int .i64 0, .int .i64 0, .int .u32 0, .int .i64 0, .int .i64 0, .pointer none]) 5).run Tryz.prog W = .ok (.int .u32 0) W := fun _ => by kernel_rfl
      have hAs := hA.hi
      have hFA := hA.fa
      have hbs := hb.size
      go_wp2
      go_region_held_law (fun W => W.cell? ⟨wr.heap.size, 0, none⟩ = some (.string ⟨x.name.toArray⟩) ∧ W.cell? ⟨wr.heap.size, 1, none⟩ = some (.int .i64 x.kind) ∧ W.cell? ⟨wr.heap.size, 2, none⟩ = some (.int .i64 x.time) ∧ W.cell? ⟨wr.heap.size, 3, none⟩ = some (.int .i64 x.user) ∧
          W.cell? ⟨wr.heap.size, 4, none⟩ = some (.int .i64 x.group) ∧ W.cell? ⟨wr.heap.size, 5, none⟩ = some (.int .i64 x.mode) ∧ W.cell? ⟨wr.heap.size, 6, none⟩ = some (.string ⟨x.data.toArray⟩)) ((first | assumption | (simp [*]; done)))
        (first
          | (go_at_call 23; (with_reducible refine (like_any _ _ _).mono ?_); rintro r w3 ⟨rfl, rfl⟩)
          | (go_at_call 24; (with_reducible refine (NewReader_any _ _).mono ?_); rintro r w4 ⟨rfl, hs4, hb4, hSt4⟩; have kk := fun j => hb4.cell (p := ⟨wr.heap.size, j, none⟩) (by simp); have hb04 : Below wr.heap.size wr w4 := ((Below.refl wr.heap.size wr).alloc (Nat.le_refl _) _).drew.trans (hb4.mono (by simp)); have hA4 := hA.below hb04; have hL4 := hL.below (hb.trans (hb04.mono hbs)); have h84 := (hb4.block wr.heap.size (by simp)).trans (heap_alloc_new wr _); have hs4' : SRAt w4 (wr.heap.size + 1) x.data 0 := (by simpa using hs4); have hSt4' : ∃ cs fz, w4.heap[wr.heap.size + 1]? = some (.cells cs 90 fz) := (by simpa using hSt4))
          | (go_at_call 22; (with_reducible refine ((hAE _ _ hA4 hL4 hs4' hSt4' (by omega) (by omega) (hA.own_lt (by omega))).out).mono ?_); rintro r w5 ⟨rfl, v5, hA5, hb5, hk5⟩; have h85 := hk5 _ _ _ (by omega) (by omega) (by omega) h84; have kk5 := fun j => cell_of_heap w5 wr.heap.size j _ _ _ h85))
      go_wp2
      go_roundw
      case rel =>
        refine ⟨k + 1, v5, by omega, by go_num, ?_, hb.trans ((hb04.mono hbs).trans hb5)⟩
        rw [Ht.out]; exact hA5
      case measure => simp [intOf]; omega
    · have hkl : k = es.length := by omega
      subst hkl
      rw [List.take_length] at hA
      have hf := hA.f
      have hne : archB es ≠ [] := by simp [archB, magicB]
      generalize hacc : archB es = acc at *
      have Hacc := hide hacc
      clear hacc
      rcases hf.shape with ⟨rfl, h⟩ | ⟨g, c, rfl, _, _, _, _, hby⟩
      · exact absurd h hne
      · have hBy := hide (Bytes_any w.heap.size g c acc wr hf)
        have hcv := run_bytes_str g 0 c acc wr hby
        clear hby
        go_wp2_with (go_at_call 25; (with_reducible refine (hBy.out).mono ?_); rintro r w3 ⟨rfl, rfl⟩)
        go_ret2
        exact ⟨by rw [Hacc.out]; rfl, hb⟩
end Go.Proofs.YtgdghaijjhbegaaGreatDoor
