/- The walks of NewFile over bytes, and of Parse. -/
import Derived.Test.YtgdghaijjhbegaaDoorParC
import Derived.Test.YtgdghaijjhbegaaDoorFileA
import Derived.Deep.RegionHeld3
namespace Go.Proofs.YtgdghaijjhbegaaDoor
open Go.RowKit
set_option maxRecDepth 100000

theorem run_copy_bytes (w : World) (b c : Nat) (xs : List UInt8) (hx : BytesAt w b 0 xs) (hl : xs.length ≤ 1099511627776) (h0 : 0 < xs.length) :
    ∃ D cap w1, (Builtin.append_ #[41, 41] 41 #[.slice none 0 0, .slice (some ⟨b, 0, none⟩) xs.length c]).run Tryd.prog w = .ok (.slice (some ⟨D, 0, none⟩) xs.length cap) w1 ∧
      w.heap.size ≤ D ∧ D < w1.heap.size ∧ BytesAt w1 D 0 xs ∧ xs.length ≤ cap ∧ Below w.heap.size w w1 := by
  obtain ⟨i0, hi, hz, hsz, hby⟩ := info_parts (show (Tryd.prog.info? 5).map (fun i => (i.zero, i.size, i.bytes)) = some (some (.int .u8 0), 1, 1) by kernel_rfl)
  obtain ⟨v', w1, hr, hown, hg, _, hat⟩ := run_append_own_at (P := Tryd.prog) w w.heap.size 41 41 5 i0 (.int .u8 0) 1 1 Tryd.underlying41 hi hz hsz hby rfl (by decide) (.slice none 0 0) 0 [] (World.ownsRow_nil _ _ _ _)
    ⟨b, 0, none⟩ xs.length c (bcells xs) (by rw [bcells_length]; omega)
    (fun j u hj => by
      have hjl : j < xs.length := by
        rcases Nat.lt_or_ge j xs.length with h | h
        · exact h
        · rw [List.getElem?_eq_none (by rw [bcells_length]; exact h)] at hj; cases hj
      have hadd : (⟨b, 0, none⟩ : Addr).add j = ⟨b, 0 + j, none⟩ := by unfold Addr.add; split <;> simp_all
      rw [hadd, hx j hjl]
      simp [bcells, hjl] at hj
      rw [hj]) (bcells_one xs) (by simp only [maxLen]; omega) (by omega) (Nat.le_refl _)
  rw [Nat.zero_add, List.nil_append] at hown
  rcases hown.2 with ⟨rfl, hn⟩ | ⟨g, cap, cur, rfl, hb, hgg, hnc, hcm, _, _⟩
  · omega
  · refine ⟨g, cap, w1, hr, hb, (Array.getElem?_eq_some_iff.1 hgg).1, fun i hi => ?_, hnc, ⟨hg.os, hg.tape, hg.output, hg.size, fun k hk => hg.block k hk (by simp [Value.ownBlock])⟩⟩
    have := hown.cells (g := g) rfl i _ (by simp [bcells, hi] : (bcells xs)[i]? = some (Value.int .u8 (xs[i].toNat : Int)))
    have hadd : (⟨g, 0, none⟩ : Addr).add i = ⟨g, 0 + i, none⟩ := by unfold Addr.add; split <;> simp_all
    rw [hadd] at this
    exact this

set_option maxHeartbeats 400000 in
theorem NewFile_bytes (nm : ByteArray) (b c : Nat) (xs : List UInt8) (w : World) (hx : BytesAt w b 0 xs) (hl : xs.length ≤ 1099511627776) (h0 : 0 < xs.length) :
    Calls Tryd.prog 32 #[.string nm, .slice (some ⟨b, 0, none⟩) xs.length c] w
      fun e w' => ∃ F D cap, e = .returned (.pointer (some ⟨F, 0, none⟩)) ∧ PFile w' F D cap xs 0 ∧ w.heap.size ≤ D ∧ Below w.heap.size w w' := by
  obtain ⟨D, cap, w1, hr, h1, h2, h3, h4, h5⟩ := run_copy_bytes w b c xs hx hl h0
  go_enter Tryd.func32, Tryd.ntmps32
  go_wp2_with (at_builtin; refine wpList_run rfl (run_append_exec _ _ _ _ rfl rfl rfl hr) ?_)
  go_ret
  refine ⟨w1.heap.size, D, cap, rfl, ⟨by simp, ?_, ?_, frozen_of_heap _ _ _ _ _ (heap_alloc_new w1 _), fun i hi => cell?_alloc_old _ (h3 i hi), h2, h4, hl⟩, h1, h5.alloc h5.size _⟩
  · rw [cell_of_heap _ _ _ _ _ _ (heap_alloc_new w1 _)]; rfl
  · rw [cell_of_heap _ _ _ _ _ _ (heap_alloc_new w1 _)]; rfl

def tmp0 : List Value := List.replicate 256 (.int .u8 0)
theorem alloc_reader (W : World) : (Instr.alloc 86 true (.tuple #[])).run Tryd.prog W = .ok (.pointer (some ⟨W.heap.size, 0, none⟩)) (W.alloc (.cells (zrow tmp0).toArray 86)) := by
  kernel_rfl

theorem run_alc {P : Program} {ρ : Operand → Value} {o : Oper} {w w' : World} {t : TypeId} {v : Value} (ho : o.op = .alloc t) (h : (Instr.alloc t true (.tuple #[])).run P w = .ok v w') : (execOp ρ o).run P w = .ok (.value v) w' := by
  simp [execOp, ho, h, Result.andThen]
end Go.Proofs.YtgdghaijjhbegaaDoor

/- The walk of Parse. -/
namespace Go.Proofs.YtgdghaijjhbegaaDoor
open Go.RowKit
set_option maxRecDepth 100000

theorem init_new (F D cap : Nat) (data : List UInt8) (w : World) (hf : PFile w F D cap data 0) :
    Calls Tryd.prog 49 #[.pointer (some ⟨w.heap.size, 0, none⟩), .pointer (some ⟨F, 0, none⟩)] (w.alloc (.cells (zrow tmp0).toArray 86))
      fun x w' => x = .returned (.tuple #[]) ∧ ∃ A V U B, OAt w' w.heap.size A V U B F D cap data 0 .nilIface tmp0 ∧ PArc w' A V 0 [] ∧ Below D w w' := by
  have hdf := hf.df
  have hhi := hf.hi
  have hb0 : Below w.heap.size w (w.alloc (.cells (zrow tmp0).toArray 86)) := (Below.refl _ _).alloc (Nat.le_refl _) _
  refine (init_any w.heap.size F D cap data tmp0 _ (hf.trod (S := fun _ => False) (Trod.of_below hb0) id id) (heap_alloc_new w _) (by simp [tmp0]) hf.hi).mono ?_
  rintro x w' ⟨rfl, A, V, U, B, h1, h2, h3⟩
  exact ⟨rfl, A, V, U, B, h1, h2, (hb0.mono (by omega)).trans (h3.below (by simp; omega) (fun j hj e => by omega))⟩

set_option maxHeartbeats 4000000 in
/-- Parse over an archive. -/
theorem Parse_arc (F D cap : Nat) (vb : Bool) (es : List Ent) (data : List UInt8) (w : World) (hf : PFile w F D cap data 0) (hok : es.all Ent.okB = true) (hdata : data = archB es) (hes : es.length ≤ 1000000) (hL : PLaid w D) :
    Calls Tryd.prog 39 #[.pointer (some ⟨F, 0, none⟩), .bool vb] w
      fun x w' => (∃ A V, x = .returned (.tuple #[.pointer (some ⟨A, 0, none⟩), .nilIface]) ∧ PArc w' A V es.length (recs vb es es.length)) ∧ Below D w w' := by
  have hal := alloc_reader
  have HI := hide (init_new F D cap data w hf)
  have hdf := hf.df
  have hhi := hf.hi
  have hlen : 8 ≤ data.length := by rw [hdata]; simp [archB, magicB]
  have h8 : (data.drop 0).take 8 = magicB := by rw [hdata]; rfl
  have HA := fun R A V U B tmp W h hP hW => hide (parse_any R A V U B F D cap vb es data [] tmp W h hP hok (by rw [List.append_nil]; exact hdata) hes (Or.inl rfl) (hL.below hW))
  have Hdata := hide hdata
  clear hdata hf
  have HEq : ∀ W B r c b, Hid (BytesAt W B r magicB) → Hid (BytesAt W b 0 magicB) → Hid (Calls Tryd.prog 51 #[.slice (some ⟨B, r, none⟩) 8 c, .slice (some ⟨b, 0, none⟩) 8 8] W fun x w' => x = .returned (.bool true) ∧ W = w') :=
    fun W B r c b y1 y2 => Equal_any B r c b 0 8 magicB magicB W y1.out y2.out
  clear hlen
  go_enter Tryd.func39, Tryd.ntmps39
  go_wp2_with (first
    | (with_reducible refine wpList_run rfl (run_alc rfl (alloc_reader _)) ?_)
    | (go_at_call 49; (with_reducible refine (HI.out).mono ?_); rintro x w1 ⟨rfl, A, V, U, B, h1, hp1, hb1⟩; have HP := hide (peek_ok w.heap.size A V U B F D cap data 0 tmp0 w1 h1 (by rw [Hdata.out]; simp [archB, magicB])))
    | (go_at_call 50; (with_reducible refine (HP.out).mono ?_); rintro x w2 ⟨r', rfl, h2, by2, t2⟩; rw [h8] at by2)
    | (go_at_call 44; (with_reducible refine (archiveHeader_any _).mono ?_); rintro x w3 ⟨rfl, by3, hb3⟩; have by23 := hide ((Trod.of_below (S := fun _ => False) hb3).bytes by2 id); have Hby3 := hide by3; clear by2 by3)
    | (go_at_call 51; (with_reducible refine ((HEq _ _ _ _ _ by23 Hby3).out).mono ?_); rintro x w4 ⟨rfl, rfl⟩; obtain ⟨r9, e9, hb9⟩ := h2.b; have hbD : Below D w w3 := ((hb1.trans (t2.below (by have := hb1.size; omega) (fun j hj e => by have := hb9.ub; have := hb9.fu; have := hb9.f.df; omega))).trans (hb3.mono (by have := hb1.size; have := t2.size; omega))); have h3 := h2.quiet (Trod.of_below hb3); have hp3 := (hp1.trod t2 (fun j e => Or.inl (by have := h2.au; have := h2.ra; have := h2.fr; have := h2.bv; have := hb9.ub; have := hb9.fu; omega))).trod (S := fun _ => False) (Trod.of_below hb3) (fun j e => e.elim); have HPA := HA _ _ _ _ _ _ _ h3 hp3 hbD)
    | (go_at_call 52; (with_reducible refine (HPA.out).mono ?_); rintro x w5 ⟨⟨_, rfl, hc5, hp5⟩ | ⟨hne, _⟩, hb5⟩; rotate_left; (exact absurd rfl hne)))
  go_ret2
  exact ⟨⟨A, V, rfl, hp5⟩, hbD.trans hb5⟩
end Go.Proofs.YtgdghaijjhbegaaDoor
