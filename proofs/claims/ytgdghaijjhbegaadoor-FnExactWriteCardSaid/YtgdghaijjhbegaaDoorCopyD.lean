/- The walks of io.CopyN and of what it calls. -/
import Derived.Test.YtgdghaijjhbegaaDoorCopyC
namespace Go.Proofs.YtgdghaijjhbegaaDoor
open Go.RowKit
set_option maxRecDepth 100000

set_option maxHeartbeats 1000000 in
theorem CopyN_any (F S : Nat) (v : Value) (bs xs : List UInt8) (ea : Addr) (w : World) (hf : FileAt w F v bs) (hs : SRAt w S xs 0)
    (hE : w.cell? ⟨0, 0, none⟩ = some (.iface 133 (.pointer (some ea)))) (hGF : 0 < F) (hGS : 0 ≠ S) (hx : bs.length + xs.length ≤ 1099511627776)
    (hFS : F ≠ S) (hvS : v.ownBlock ≠ some S) :
    Calls Tryd.prog 47 #[.iface 46 (.pointer (some ⟨F, 0, none⟩)), .iface 63 (.pointer (some ⟨S, 0, none⟩)), .int .i64 xs.length] w
      fun e w' => e = .returned (.tuple #[.int .i64 xs.length, .nilIface]) ∧ ∃ v', FileAt w' F v' (bs ++ xs) ∧ Wrote (fun k => k = F ∨ k = S) w v w' v' := by
  have hb : ∀ cb t, Below w.heap.size w (w.alloc (.cells cb t)) := fun cb t => (Below.refl _ _).alloc (Nat.le_refl _) _
  have hC : ∀ w1, Below w.heap.size w w1 → LRAt w1 w.heap.size S xs.length → Hid (Calls Tryd.prog 89 #[.iface 46 (.pointer (some ⟨F, 0, none⟩)), .iface 137 (.pointer (some ⟨w.heap.size, 0, none⟩)), .slice none 0 0] w1
      fun e w' => e = .returned (.tuple #[.int .i64 xs.length, .nilIface]) ∧ ∃ v', FileAt w' F v' (bs ++ xs) ∧ Wrote (fun k => k = F ∨ k = S) w v w' v') := fun w1 hb hl => by
    have hw : Wrote (fun _ => False) w (.slice none 0 0) w1 (.slice none 0 0) := Wrote.of_below hb
    have hF := hf.hi
    have hS := hs.hi
    have hG := World.block_lt_of_cell? w _ hE
    refine (copyBuffer_any F w.heap.size S v bs xs ea w1 (hf.below hb) hl (hs.wrote hw id (by simp [Value.ownBlock])) ((hb.cell (p := ⟨0, 0, none⟩) hG).trans hE) hGF (by have : 0 < w.heap.size := hG; omega) hGS hx (by omega) hFS (by omega) (fun e => ?_) hvS).mono ?_
    · have := (hf.own.lt _ e).2; omega
    · rintro e w' ⟨h1, v', h2, h3⟩
      refine ⟨h1, v', h2, (show Wrote (fun k => k = F ∨ k = S) w v w1 v from Wrote.of_below hb).trans' h3 ?_⟩
      rintro k (e | e | e)
      · exact Or.inl (Or.inl e)
      · exact Or.inl (Or.inr e)
      · exact Or.inr (Nat.le_of_eq e.symm)
  have hlr : LRAt (w.alloc (.cells #[.iface 63 (.pointer (some ⟨S, 0, none⟩)), .int .i64 xs.length] 139)) w.heap.size S xs.length :=
    ⟨by simp, by rw [cell_of_heap _ _ _ _ _ _ (heap_alloc_new w _)]; rfl, by rw [cell_of_heap _ _ _ _ _ _ (heap_alloc_new w _)]; rfl, frozen_of_heap _ _ _ _ _ (heap_alloc_new w _)⟩
  have HC := hC _ (hb _ _) hlr
  clear hC hlr
  go_enter Tryd.func47, Tryd.ntmps47
  go_wp2_with (first | (go_at_call 65; go_in) | (go_at_call 64; go_in) | (go_at_call 89; (with_reducible refine (HC.out).mono ?_); rintro e w2 ⟨rfl, v', h2, h3⟩))
  go_ret2
  exact ⟨rfl, v', h2, h3⟩
end Go.Proofs.YtgdghaijjhbegaaDoor
