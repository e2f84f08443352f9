/- The walk of laws.zzFits1: no text of the entries is longer than the law bears. -/
import Derived.Test.YtgdghaijjhbegaaDoorSpecD
namespace Go.Proofs.YtgdghaijjhbegaaDoor
open Go.RowKit
set_option maxRecDepth 100000

def Ent.fitsB (e : Ent) : Bool := decide ((e.name.length : Int) ≤ 2147483647) && decide ((e.data.length : Int) ≤ 2147483647)
def fitsB (es : List Ent) : Bool := decide ((es.length : Int) ≤ 2147483647) && es.all Ent.fitsB

set_option maxHeartbeats 1000000 in
theorem zzFits1_any (p : Option Addr) (b o cap : Nat) (es : List Ent) (w : World) (hp : es ≠ [] → p = some ⟨b, o, none⟩) (hw : EntsAt w b o es) (hs : ∀ e ∈ es, e.name.length ≤ 9223372036854775807 ∧ e.data.length ≤ 9223372036854775807) (hl : es.length ≤ 9223372036854775807) (hB : b < w.heap.size) :
    Calls Tryd.prog 15 #[.slice p es.length cap] w fun e w' => e = .returned (.bool (fitsB es)) ∧ Below w.heap.size w w' := by
  by_cases hbig : es.length ≤ 2147483647
  · have hbig' : (es.length : Int) ≤ 2147483647 := by omega
    go_enter Tryd.func15, Tryd.ntmps15
    go_wp2
    go_loopw [10] (fun s wr => ∃ k : Nat, k ≤ es.length ∧ s = .int .i64 k ∧ Hid ((es.take k).all Ent.fitsB = true) ∧ Below w.heap.size w wr) (fun s _ => es.length - (intOf s).toNat)
    case atStart => exact ⟨0, Nat.zero_le _, rfl, by show (es.take 0).all Ent.fitsB = true; simp, Below.refl _ _⟩
    case round =>
      obtain ⟨k, hk, rfl, hr, hb⟩ := hrel
      by_cases hlt : k < es.length
      · obtain rfl := hp (by rintro rfl; exact absurd hlt (Nat.not_lt_zero _))
        have hcells := (hw.below hb hB) k hlt
        have c0 : wr.cell? ⟨b, o + k * 8, none⟩ = _ := hcells 0 _ rfl
        have c1 := hcells 1 _ rfl
        have c2 := hcells 2 _ rfl
        have c3 := hcells 3 _ rfl
        have c4 := hcells 4 _ rfl
        have c5 := hcells 5 _ rfl
        have c6 := hcells 6 _ rfl
        have c7 := hcells 7 _ rfl
        have hsh := hs es[k] (List.getElem_mem hlt)
        have ht : (es.take (k + 1)).all Ent.fitsB = ((es.take k).all Ent.fitsB && es[k].fitsB) := by
          rw [List.take_succ_eq_append_getElem hlt, List.all_append]; simp only [List.all_cons, List.all_nil, Bool.and_true]
        have hm : es[k] ∈ es := List.getElem_mem hlt
        generalize es[k] = x at *
        clear hcells
        cases hx : x.fitsB
        · have hfin := hide (show fitsB es = false by
            have : es.all Ent.fitsB = false := by rw [List.all_eq_false]; exact ⟨x, hm, by rw [hx]; simp⟩
            simp [fitsB, this])
          have hE := fun W => hide ((zzFits2_any x.name x.data x.kind x.time x.user x.group x.mode x.off W hsh.1 hsh.2).mono fun e w' h => (⟨by rw [h.1]; exact ret_bool hx, h.2⟩ : e = .returned (.bool false) ∧ Below W.heap.size W w'))
          clear ht hm hx
          go_wp2_with (go_at_call 30; refine ((hE _).out).mono ?_; rintro e w1 ⟨rfl, hb1⟩)
          go_ret
          refine ⟨by rw [hfin.out]; rfl, ?_⟩
          exact (hb.alloc hb.size _).trans (hb1.mono (by have := hb.size; simp; omega))
        · have hE := fun W => hide ((zzFits2_any x.name x.data x.kind x.time x.user x.group x.mode x.off W hsh.1 hsh.2).mono fun e w' h => (⟨by rw [h.1]; exact ret_bool hx, h.2⟩ : e = .returned (.bool true) ∧ Below W.heap.size W w'))
          have hnew : Hid ((es.take (k + 1)).all Ent.fitsB = true) := by
            show _ = true
            rw [ht, hr.out, hx]; rfl
          clear ht hm hx
          go_wp2_with (go_at_call 30; refine ((hE _).out).mono ?_; rintro e w1 ⟨rfl, hb1⟩)
          go_roundw
          case rel => exact ⟨k + 1, by omega, by go_num, hnew, (hb.alloc hb.size _).trans (hb1.mono (by have := hb.size; simp; omega))⟩
          case measure => simp [intOf]; omega
      · have hfin := hide (show fitsB es = true by
          have := hr.out
          rw [List.take_of_length_le (by omega)] at this
          simp [fitsB, this, hbig'])
        go_wp2
        go_ret
        exact ⟨by rw [hfin.out]; rfl, hb⟩
  · have hbig' : (2147483647 : Int) < es.length := by omega
    go_enter Tryd.func15, Tryd.ntmps15
    go_wp2
    go_ret
    refine ⟨?_, Below.refl _ _⟩
    have : fitsB es = false := by simp [fitsB]; intro h; omega
    rw [this]; rfl

theorem fitsB_short {es : List Ent} (h : fitsB es = true) : EntsShort es ∧ es.length ≤ 2147483647 := by
  unfold fitsB at h
  simp only [Bool.and_eq_true, decide_eq_true_eq, List.all_eq_true] at h
  refine ⟨fun e he => ?_, by omega⟩
  have := h.2 e he
  simp only [Ent.fitsB, Bool.and_eq_true, decide_eq_true_eq] at this
  omega
end Go.Proofs.YtgdghaijjhbegaaDoor
