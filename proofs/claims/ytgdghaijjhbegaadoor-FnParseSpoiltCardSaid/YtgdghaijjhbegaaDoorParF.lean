/- The walks of Parse over what is no archive, or ends badly. -/
import Derived.Test.YtgdghaijjhbegaaDoorParD
namespace Go.Proofs.YtgdghaijjhbegaaDoor
open Go.RowKit
set_option maxRecDepth 100000

theorem tailBad.ne {t : List UInt8} (h : tailBad t) : t ≠ [] := by
  rintro rfl
  rcases h with h | h | h
  · simp at h
  · simp at h
  · simp at h

set_option maxHeartbeats 4000000 in
/-- Parse over good entries with a bad end behind them. -/
theorem Parse_bad (F D cap : Nat) (vb : Bool) (es : List Ent) (data tail : List UInt8) (w : World) (hf : PFile w F D cap data 0) (hok : es.all Ent.okB = true) (hdata : data = archB es ++ tail) (hes : es.length ≤ 1000000) (htl : tailBad tail) (hL : PLaid w D) :
    Calls Tryd.prog 39 #[.pointer (some ⟨F, 0, none⟩), .bool vb] w
      fun x w' => (∃ v, x = .returned (.tuple #[.pointer none, .iface 133 v])) ∧ Below D w w' := by
  have hal := alloc_reader
  have HI := hide (init_new F D cap data w hf)
  have hdf := hf.df
  have hhi := hf.hi
  have hlen : 8 ≤ data.length := by rw [hdata]; simp [archB, magicB]
  have h8 : (data.drop 0).take 8 = magicB := by rw [hdata]; rfl
  have HA := fun R A V U B tmp W h hP hW => hide (parse_any R A V U B F D cap vb es data tail tmp W h hP hok hdata hes (Or.inr htl) (hL.below hW))
  have Hne := hide htl.ne
  have Hlen := hide hlen
  clear hdata hf hlen htl
  have HEq : ∀ W B r c b, Hid (BytesAt W B r magicB) → Hid (BytesAt W b 0 magicB) → Hid (Calls Tryd.prog 51 #[.slice (some ⟨B, r, none⟩) 8 c, .slice (some ⟨b, 0, none⟩) 8 8] W fun x w' => x = .returned (.bool true) ∧ W = w') :=
    fun W B r c b y1 y2 => Equal_any B r c b 0 8 magicB magicB W y1.out y2.out
  go_enter Tryd.func39, Tryd.ntmps39
  go_wp2_with (first
    | (with_reducible refine wpList_run rfl (run_alc rfl (alloc_reader _)) ?_)
    | (go_at_call 49; (with_reducible refine (HI.out).mono ?_); rintro x w1 ⟨rfl, A, V, U, B, h1, hp1, hb1⟩; have HP := hide (peek_ok w.heap.size A V U B F D cap data 0 tmp0 w1 h1 (by have := Hlen.out; omega)))
    | (go_at_call 50; (with_reducible refine (HP.out).mono ?_); rintro x w2 ⟨r', rfl, h2, by2, t2⟩; rw [h8] at by2)
    | (go_at_call 44; (with_reducible refine (archiveHeader_any _).mono ?_); rintro x w3 ⟨rfl, by3, hb3⟩; have by23 := hide ((Trod.of_below (S := fun _ => False) hb3).bytes by2 id); have Hby3 := hide by3; clear by2 by3)
    | (go_at_call 51; (with_reducible refine ((HEq _ _ _ _ _ by23 Hby3).out).mono ?_); rintro x w4 ⟨rfl, rfl⟩; obtain ⟨r9, e9, hb9⟩ := h2.b; have hbD : Below D w w3 := ((hb1.trans (t2.below (by have := hb1.size; omega) (fun j hj e => by have := hb9.ub; have := hb9.fu; have := hb9.f.df; omega))).trans (hb3.mono (by have := hb1.size; have := t2.size; omega))); have h3 := h2.quiet (Trod.of_below hb3); have hp3 := (hp1.trod t2 (fun j e => Or.inl (by have := h2.au; have := h2.ra; have := h2.fr; have := h2.bv; have := hb9.ub; have := hb9.fu; omega))).trod (S := fun _ => False) (Trod.of_below hb3) (fun j e => e.elim); have HPA := HA _ _ _ _ _ _ _ h3 hp3 hbD)
    | (go_at_call 52; (with_reducible refine (HPA.out).mono ?_); rintro x w5 ⟨⟨hne, _⟩ | ⟨_, v5, rfl⟩, hb5⟩; (exact absurd hne Hne.out)))
  go_ret2
  exact ⟨⟨v5, rfl⟩, hbD.trans hb5⟩

set_option maxHeartbeats 4000000 in
/-- Parse over what begins neither as an archive nor as a Go object. -/
theorem Parse_none (F D cap : Nat) (vb : Bool) (data : List UInt8) (w : World) (hf : PFile w F D cap data 0) (hlen : 8 ≤ data.length) (h1 : data.take 8 ≠ magicB) (h2 : data.take 8 ≠ goObjM) (hL : PLaid w D) :
    Calls Tryd.prog 39 #[.pointer (some ⟨F, 0, none⟩), .bool vb] w
      fun x w' => (∃ v, x = .returned (.tuple #[.pointer none, .iface 133 v])) ∧ Below D w w' := by
  have hal := alloc_reader
  have HI := hide (init_new F D cap data w hf)
  have hdf := hf.df
  have hhi := hf.hi
  have h8 : (data.take 8).length = 8 := by rw [List.length_take]; omega
  have Hlen := hide hlen
  have HL := hide hL
  clear hf hlen hL
  have HEq : ∀ W B r c b, Hid (BytesAt W B r (data.take 8)) → Hid (BytesAt W b 0 magicB) → Hid (Calls Tryd.prog 51 #[.slice (some ⟨B, r, none⟩) 8 c, .slice (some ⟨b, 0, none⟩) 8 8] W fun x w' => x = .returned (.bool false) ∧ W = w') :=
    fun W B r c b y1 y2 => by
      have := Equal_any B r c b 0 8 (data.take 8) magicB W y1.out y2.out
      rw [h8, show (data.take 8 == magicB) = false from beq_eq_false_iff_ne.2 h1] at this
      exact this
  have HEq2 : ∀ W B r c b, Hid (BytesAt W B r (data.take 8)) → Hid (BytesAt W b 0 goObjM) → Hid (Calls Tryd.prog 51 #[.slice (some ⟨B, r, none⟩) 8 c, .slice (some ⟨b, 0, none⟩) 8 8] W fun x w' => x = .returned (.bool false) ∧ W = w') :=
    fun W B r c b y1 y2 => by
      have := Equal_any B r c b 0 8 (data.take 8) goObjM W y1.out y2.out
      rw [h8, show (data.take 8 == goObjM) = false from beq_eq_false_iff_ne.2 h2] at this
      exact this
  clear h8 h1 h2
  go_enter Tryd.func39, Tryd.ntmps39
  go_wp2_with (first
    | (with_reducible refine wpList_run rfl (run_alc rfl (alloc_reader _)) ?_)
    | (go_at_call 49; (with_reducible refine (HI.out).mono ?_); rintro x w1 ⟨rfl, A, V, U, B, h1, hp1, hb1⟩; have HP := hide (peek_ok w.heap.size A V U B F D cap data 0 tmp0 w1 h1 (by have := Hlen.out; omega)))
    | (go_at_call 50; (with_reducible refine (HP.out).mono ?_); rintro x w2 ⟨r', rfl, h2, by2, t2⟩; rw [List.drop_zero] at by2)
    | (go_at_call 44; (with_reducible refine (archiveHeader_any _).mono ?_); rintro x w3 ⟨rfl, by3, hb3⟩; have by23 := (Trod.of_below (S := fun _ => False) hb3).bytes by2 id; have Hby3 := hide by3; clear by2 by3; have Hby23 := hide by23)
    | (go_at_call 51; (with_reducible refine ((HEq _ _ _ _ _ Hby23 Hby3).out).mono ?_); rintro x w4 ⟨rfl, rfl⟩; clear HEq; obtain ⟨r9, e9, hb9⟩ := h2.b; have hbD : Below D w w3 := ((hb1.trans (t2.below (by have := hb1.size; omega) (fun j hj e => by have := hb9.ub; have := hb9.fu; have := hb9.f.df; omega))).trans (hb3.mono (by have := hb1.size; have := t2.size; omega))))
    | (go_at_call 53; (with_reducible refine (goobjHeader_any _).mono ?_); rintro x w6 ⟨rfl, by6, hb6⟩; have by26 := hide ((Trod.of_below (S := fun _ => False) hb6).bytes by23 id); have Hby6 := hide by6; clear by23 by6)
    | (go_at_call 51; (with_reducible refine ((HEq2 _ _ _ _ _ by26 Hby6).out).mono ?_); rintro x w7 ⟨rfl, rfl⟩; have hbE : Below D w w6 := hbD.trans (hb6.mono (by have := hbD.size; omega)); obtain ⟨ca, hca, _⟩ := (HL.out.nob.below hbE)))
  go_region_held3 (fun W => W.cell? ⟨2, 0, none⟩ = some (.iface 133 (.pointer (some ca)))) ((first | assumption | (simp [*]; done))) (first | fail)
  go_wp2
  go_ret2
  exact ⟨⟨_, rfl⟩, hbE.drew⟩
end Go.Proofs.YtgdghaijjhbegaaDoor
