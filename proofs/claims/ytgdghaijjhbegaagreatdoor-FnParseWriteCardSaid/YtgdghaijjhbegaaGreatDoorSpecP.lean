/- The walk of Placed: entries with their places. -/
import Derived.Test.YtgdghaijjhbegaaGreatDoorSpecE
import Derived.Deep.RegionHeld3
namespace Go.Proofs.YtgdghaijjhbegaaGreatDoor
open Go.RowKit
set_option maxRecDepth 100000

set_option maxHeartbeats 1000000 in
theorem Placed_any (p : Option Addr) (b o cap : Nat) (es : List Ent) (w : World) (hp : es ≠ [] → p = some ⟨b, o, none⟩) (hw : EntsAt w b o es) (hok : entriesOkB es = true) (hB : b < w.heap.size) :
    Calls Tryz.prog 13 #[.slice p es.length cap] w fun e w' => ∃ v, e = .returned v ∧ OwnEnts w' w.heap.size v (outs true es es.length) ∧ Below w.heap.size w w' := by
  unfold entriesOkB at hok
  simp only [Bool.and_eq_true, decide_eq_true_eq] at hok
  obtain ⟨hall, hl⟩ := hok
  have hl' : es.length ≤ 200 := by omega
  go_enter Tryz.func13, Tryz.ntmps13
  go_wp2
  go_loopw [3, 4, 10] (fun s3 s4 s10 wr => ∃ (k : Nat), k ≤ es.length ∧ s10 = .int .i64 k ∧ s4 = .int .i64 (posAt es k) ∧ OwnEnts wr w.heap.size s3 (outs true es k) ∧ Below w.heap.size w wr) (fun _ _ s _ => es.length - (intOf s).toNat)
  case atStart => exact ⟨0, Nat.zero_le _, rfl, rfl, OwnEnts.empty w, (Below.refl _ _).alloc (Nat.le_refl _) _⟩
  case round =>
    obtain ⟨k, hk, rfl, rfl, hown, hb⟩ := hrel
    by_cases hlt : k < es.length
    · obtain rfl := hp (by rintro rfl; exact absurd hlt (Nat.not_lt_zero _))
      have hcells := (hw.below hb hB) k hlt
      have c0 : wr.cell? ⟨b, o + k * 8, none⟩ = _ := hcells 0 _ rfl
      have c1 := hcells 1 _ rfl
      have c2 := hcells 2 _ rfl
      have c3 := hcells 3 _ rfl
      have c4 := hcells 4 _ rfl
      have c5 := hcells 5 _ rfl
      have c6 := hcells 6 _ rfl
      have c7 := hcells 7 _ rfl
      have hps := posAt_succ hall hlt
      have hple := posAt_le_big hall k (by omega)
      have hos := outs_succ true es k hlt
      have hol := outs_length true es k (by omega)
      obtain ⟨_, _, _, _, _, hd⟩ := okB_bounds (ok_at hall hlt)
      generalize es[k] = x at *
      generalize posAt es k = pos at *
      clear hcells
      obtain ⟨v', w1, hr, hg, ho⟩ := out_append (wr.alloc (.cells #[.string ⟨x.name.toArray⟩, .int .i64 x.kind, .int .i64 x.time, .int .i64 x.user, .int .i64 x.group, .int .i64 x.mode, .string ⟨x.data.toArray⟩, .int .i64 ((pos : Int) + 60)] 31)) w.heap.size u3 (outs true es k) (outE true (pos + 60) x) (hown.alloc _) (by have := hb.size; simp; omega) (by omega)
      have hr2 : (Builtin.append_ #[22, 22] 22 #[u3, .slice (some ⟨wr.heap.size + 1, 0, none⟩) 1 1]).run Tryz.prog ((wr.alloc (.cells #[.string ⟨x.name.toArray⟩, .int .i64 x.kind, .int .i64 x.time, .int .i64 x.user, .int .i64 x.group, .int .i64 x.mode, .string ⟨x.data.toArray⟩, .int .i64 ((pos : Int) + 60)] 31)).alloc (.cells #[.string ⟨x.name.toArray⟩, .int .i64 x.kind, .int .i64 x.time, .int .i64 x.user, .int .i64 x.group, .int .i64 x.mode, .string ⟨x.data.toArray⟩, .int .i64 ((pos : Int) + 60)] 31)) = .ok v' w1 := by
        simpa [outE, Ent.cells] using hr
      rw [← hos] at ho
      have Hps := hide hps
      have Hfin : Hid (Below w.heap.size w w1) := (hb.alloc hb.size _).grown hg (by have := hb.size; simp; omega) hown.ge
      clear hr hos hps hol hg
      go_wp2_with (at_builtin; refine wpList_run rfl (run_append_exec _ _ _ _ rfl rfl rfl hr2) ?_)
      go_roundw
      case rel => exact ⟨k + 1, by omega, by go_num, by rw [Hps.out]; go_num, ho, Hfin.out⟩
      case measure => simp [intOf]; omega
    · have hkl : k = es.length := by omega
      subst hkl
      go_wp2
      go_ret
      exact ⟨_, rfl, hown, hb⟩
end Go.Proofs.YtgdghaijjhbegaaGreatDoor

/- The walks of Quiet and Same. -/
namespace Go.Proofs.YtgdghaijjhbegaaGreatDoor
open Go.RowKit
set_option maxRecDepth 100000

/-- An entry without when and by whom it was made. -/
def quietE (e : Ent) : Ent := ⟨e.name, e.kind, 0, 0, 0, 0, e.data, e.off⟩

theorem quiet_outs (es : List Ent) : ∀ k, (outs true es k).map quietE = outs false es k := by
  intro k
  unfold outs
  rw [List.map_flatMap]
  congr 1
  funext i
  cases es[i]? <;> rfl

set_option maxHeartbeats 1000000 in
theorem Quiet_any (p : Option Addr) (b o cap : Nat) (es : List Ent) (w : World) (hp : es ≠ [] → p = some ⟨b, o, none⟩) (hw : EntsAt w b o es) (hl : es.length ≤ 1000) (hB : b < w.heap.size) :
    Calls Tryz.prog 14 #[.slice p es.length cap] w fun e w' => ∃ v, e = .returned v ∧ OwnEnts w' w.heap.size v (es.map quietE) ∧ Below w.heap.size w w' := by
  go_enter Tryz.func14, Tryz.ntmps14
  go_wp2
  go_loopw [3, 9] (fun s3 s9 wr => ∃ (k : Nat), k ≤ es.length ∧ s9 = .int .i64 k ∧ OwnEnts wr w.heap.size s3 ((es.take k).map quietE) ∧ Below w.heap.size w wr) (fun _ s _ => es.length - (intOf s).toNat)
  case atStart => exact ⟨0, Nat.zero_le _, rfl, OwnEnts.empty w, (Below.refl _ _).alloc (Nat.le_refl _) _⟩
  case round =>
    obtain ⟨k, hk, rfl, hown, hb⟩ := hrel
    by_cases hlt : k < es.length
    · obtain rfl := hp (by rintro rfl; exact absurd hlt (Nat.not_lt_zero _))
      have hcells := (hw.below hb hB) k hlt
      have c0 : wr.cell? ⟨b, o + k * 8, none⟩ = _ := hcells 0 _ rfl
      have c1 := hcells 1 _ rfl
      have c2 := hcells 2 _ rfl
      have c3 := hcells 3 _ rfl
      have c4 := hcells 4 _ rfl
      have c5 := hcells 5 _ rfl
      have c6 := hcells 6 _ rfl
      have c7 := hcells 7 _ rfl
      have hos : (es.take (k + 1)).map quietE = (es.take k).map quietE ++ [quietE es[k]] := by rw [List.take_succ_eq_append_getElem hlt, List.map_append]; rfl
      have hol : ((es.take k).map quietE).length = k := by rw [List.length_map, List.length_take]; omega
      generalize es[k] = x at *
      clear hcells
      obtain ⟨v', w1, hr, hg, ho⟩ := out_append (wr.alloc (.cells #[.string ⟨x.name.toArray⟩, .int .i64 x.kind, .int .i64 x.time, .int .i64 x.user, .int .i64 x.group, .int .i64 x.mode, .string ⟨x.data.toArray⟩, .int .i64 x.off] 31)) w.heap.size u3 ((es.take k).map quietE) (quietE x) (hown.alloc _) (by have := hb.size; simp; omega) (by omega)
      have hr2 : (Builtin.append_ #[22, 22] 22 #[u3, .slice (some ⟨wr.heap.size + 1, 0, none⟩) 1 1]).run Tryz.prog ((wr.alloc (.cells #[.string ⟨x.name.toArray⟩, .int .i64 x.kind, .int .i64 x.time, .int .i64 x.user, .int .i64 x.group, .int .i64 x.mode, .string ⟨x.data.toArray⟩, .int .i64 x.off] 31)).alloc (.cells #[.string ⟨x.name.toArray⟩, .int .i64 x.kind, .int .i64 0, .int .i64 0, .int .i64 0, .int .i64 0, .string ⟨x.data.toArray⟩, .int .i64 x.off] 31)) = .ok v' w1 := by
        simpa [quietE, Ent.cells] using hr
      rw [← hos] at ho
      have Hfin : Hid (Below w.heap.size w w1) := (hb.alloc hb.size _).grown hg (by have := hb.size; simp; omega) hown.ge
      clear hr hos hol hg
      go_wp2_with (at_builtin; refine wpList_run rfl (run_append_exec _ _ _ _ rfl rfl rfl hr2) ?_)
      go_roundw
      case rel => exact ⟨k + 1, by omega, by go_num, ho, Hfin.out⟩
      case measure => simp [intOf]; omega
    · have hkl : es.take k = es := List.take_of_length_le (by omega)
      rw [hkl] at hown
      clear hkl
      go_wp2
      go_ret
      exact ⟨_, rfl, hown, hb⟩

set_option maxHeartbeats 1000000 in
/-- Two lists of the same entries. -/
theorem Same_any (p q : Option Addr) (b o cap b2 o2 cap2 : Nat) (es : List Ent) (w : World) (hp : es ≠ [] → p = some ⟨b, o, none⟩) (hq : es ≠ [] → q = some ⟨b2, o2, none⟩) (hw : EntsAt w b o es) (hw2 : EntsAt w b2 o2 es) (hl : es.length ≤ 1000) :
    Calls Tryz.prog 12 #[.slice p es.length cap, .slice q es.length cap2] w fun e w' => e = .returned (.bool true) ∧ Below w.heap.size w w' := by
  go_enter Tryz.func12, Tryz.ntmps12
  go_wp2
  go_loopw [13] (fun s wr => ∃ (k : Nat), k ≤ es.length ∧ s = .int .i64 k ∧ Trod (fun _ => False) w wr) (fun s _ => es.length - (intOf s).toNat)
  case atStart => exact ⟨0, Nat.zero_le _, rfl, Trod.refl _⟩
  case round =>
    obtain ⟨k, hk, rfl, ht⟩ := hrel
    by_cases hlt : k < es.length
    · obtain rfl := hp (by rintro rfl; exact absurd hlt (Nat.not_lt_zero _))
      obtain rfl := hq (by rintro rfl; exact absurd hlt (Nat.not_lt_zero _))
      have hcells := fun j v h => ht.cell (hw k hlt j v h) id
      have hcells2 := fun j v h => ht.cell (hw2 k hlt j v h) id
      have c0 : wr.cell? ⟨b, o + k * 8, none⟩ = _ := hcells 0 _ rfl
      have c1 := hcells 1 _ rfl
      have c2 := hcells 2 _ rfl
      have c3 := hcells 3 _ rfl
      have c4 := hcells 4 _ rfl
      have c5 := hcells 5 _ rfl
      have c6 := hcells 6 _ rfl
      have c7 := hcells 7 _ rfl
      have e0 : wr.cell? ⟨b2, o2 + k * 8, none⟩ = _ := hcells2 0 _ rfl
      have e1 := hcells2 1 _ rfl
      have e2 := hcells2 2 _ rfl
      have e3 := hcells2 3 _ rfl
      have e4 := hcells2 4 _ rfl
      have e5 := hcells2 5 _ rfl
      have e6 := hcells2 6 _ rfl
      have e7 := hcells2 7 _ rfl
      have q1 : (0 : Int) ≤ (k : Int) := by omega
      have q2 : (k : Int) < (es.length : Int) := by omega
      generalize es[k] = x at *
      clear hcells hcells2
      go_wp2
      go_region
      all_goals go_wp2
      all_goals go_roundw
      case rel => exact ⟨k + 1, by omega, by go_num, ht.trans (Trod.drew _)⟩
      case measure => simp [intOf]; omega
    · go_wp2
      go_ret
      exact ⟨rfl, ht.below (Nat.le_refl _) (fun j _ e => e)⟩
end Go.Proofs.YtgdghaijjhbegaaGreatDoor
