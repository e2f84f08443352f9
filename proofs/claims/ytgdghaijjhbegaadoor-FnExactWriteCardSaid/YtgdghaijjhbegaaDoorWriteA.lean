/- The walks of NewFile, New and what begins an archive. -/
import Derived.Test.YtgdghaijjhbegaaDoorAddB
namespace Go.Proofs.YtgdghaijjhbegaaDoor
open Go.RowKit
set_option maxRecDepth 100000

theorem FileAt.drew {w : World} {F : Nat} {v : Value} {bs : List UInt8} (h : FileAt w F v bs) : FileAt w.drew F v bs := ⟨h.hi, h.c1, h.c2, h.f1, h.f2, h.own⟩

theorem append_nil_nil (W : World) : (Builtin.append_ #[41, 41] 41 #[.slice none 0 0, .slice none 0 0]).run Tryd.prog W = .ok (.slice none 0 0) W := by kernel_rfl

set_option maxHeartbeats 400000 in
theorem NewFile_nil (nm : ByteArray) (w : World) :
    Calls Tryd.prog 32 #[.string nm, .slice none 0 0] w
      fun e w' => e = .returned (.pointer (some ⟨w.heap.size, 0, none⟩)) ∧ FileAt w' w.heap.size (.slice none 0 0) [] ∧ Below w.heap.size w w' ∧ w'.heap.size = w.heap.size + 1 := by
  go_enter Tryd.func32, Tryd.ntmps32
  go_wp2_with (at_builtin; refine wpList_run rfl (run_append_exec _ _ _ _ rfl rfl rfl (append_nil_nil _)) ?_)
  go_ret
  refine ⟨rfl, ⟨by simp, ?_, ?_, frozen_of_heap _ _ _ _ _ (heap_alloc_new w _), frozen_of_heap _ _ _ _ _ (heap_alloc_new w _), World.ownsRow_nil _ _ _ _⟩, (Below.refl _ _).alloc (Nat.le_refl _) _, by simp⟩
  · rw [cell_of_heap _ _ _ _ _ _ (heap_alloc_new w _)]; rfl
  · rw [cell_of_heap _ _ _ _ _ _ (heap_alloc_new w _)]; rfl

/-- []byte(b) of bytes b: the same bytes; a mark behind them. -/
theorem bytes_again (W : World) (g n c : Nat) (cs : Array Value) (t : TypeId) (fz : Nat × Nat) (hg : W.heap[g]? = some (.cells cs t fz)) :
    ∃ W' fz', (convert 41 41 (.slice (some ⟨g, 0, none⟩) n c)).run Tryd.prog W = .ok (.slice (some ⟨g, 0, none⟩) n c) W' ∧ Below g W W' ∧ W'.heap[g]? = some (.cells cs t fz') ∧ W'.heap.size = W.heap.size := by
  have hsh : W.shape? g = some (t, cs.size) := by simp [World.shape?, hg]
  obtain ⟨lo, hi⟩ := fz
  refine ⟨W.freeze ⟨g, cs.size, none⟩ 1, if lo == hi then (cs.size, cs.size + 1) else (min lo cs.size, max hi (cs.size + 1)), ?_, ⟨rfl, rfl, rfl, by simp [World.freeze], fun k hk => ?_⟩, ?_, by simp [World.freeze]⟩
  · simp [convert, run_underlying Tryd.underlying41, run_underlying Tryd.underlying5, markStringish, hsh]
  · unfold World.freeze
    rw [if_neg (by decide)]
    simp only [Array.getElem?_modify]
    rw [if_neg (by omega)]
  · unfold World.freeze
    rw [if_neg (by decide)]
    simp only [Array.getElem?_modify, hg]
    simp

set_option maxHeartbeats 1000000 in
theorem New_any (F : Nat) (w : World) (hf : FileAt w F (.slice none 0 0) []) :
    Calls Tryd.prog 33 #[.pointer (some ⟨F, 0, none⟩)] w
      fun e w' => ∃ A v', e = .returned (.tuple #[.pointer (some ⟨A, 0, none⟩), .nilIface]) ∧ AddAt w' F A v' magicB 0 ∧ Below F w w' := by
  have hW1 : ∀ W b, FileAt W F (.slice none 0 0) [] → BytesAt W b 0 magicB → Hid (Calls Tryd.prog 43 #[.pointer (some ⟨F, 0, none⟩), .slice (some ⟨b, 0, none⟩) 8 8] W
      fun r w' => r = .returned (.tuple #[.int .i64 8, .nilIface]) ∧ ∃ v', FileAt w' F v' magicB ∧ Wrote (· = F) W (.slice none 0 0) w' v') := fun W b hf hy =>
    Write_end F (.slice none 0 0) [] magicB b 0 8 W hf hy (by decide) (by decide)
  obtain ⟨W1, fz1, hcv, hb1, hg1, hs1⟩ := bytes_again (w.alloc (.cells #[.int .u8 33, .int .u8 60, .int .u8 97, .int .u8 114, .int .u8 99, .int .u8 104, .int .u8 62, .int .u8 10] 5)) w.heap.size 8 8 _ _ _ (heap_alloc_new w _)
  have hby : BytesAt W1 w.heap.size 0 magicB := BytesAt.of_prefix _ _ _ _ _ magicB [] hg1 rfl
  have hbw : Below w.heap.size w W1 := ((Below.refl _ _).alloc (Nat.le_refl _) _).trans hb1
  go_enter Tryd.func33, Tryd.ntmps33
  go_wp2_with (first | (go_at_call 44; go_in) | (go_at_call 43; (with_reducible refine ((hW1 _ _ (hf.below hbw) hby).out).mono ?_); rintro r w2 ⟨rfl, v2, hf2, hw2⟩))
  go_ret2
  have hw : Wrote (· = F) w (.slice none 0 0) w2 v2 := (Wrote.of_below hbw).trans hw2
  have hb : Below w2.heap.size w2 (w2.alloc (.cells #[.pointer (some ⟨F, 0, none⟩), .slice none 0 0] 70)) := (Below.refl _ _).alloc (Nat.le_refl _) _
  refine ⟨w2.heap.size, v2, rfl, ⟨hf2.below hb, by simp, hf2.hi, fun e => ?_, ?_, frozen_of_heap _ _ _ _ _ (heap_alloc_new w2 _), .slice none 0 0, [], ?_, World.ownsRow_nil _ _ _ _⟩, ?_⟩
  · have := (hf2.own.lt _ e).2; omega
  · rw [cell_of_heap _ _ _ _ _ _ (heap_alloc_new w2 _)]; rfl
  · rw [cell_of_heap _ _ _ _ _ _ (heap_alloc_new w2 _)]; rfl
  · exact (hw.below (B := F) (by have := hf.hi; omega) (fun j hj e => by omega) (fun j hj => by simp [Value.ownBlock])).trans (hb.mono (by have := hf2.hi; omega))
end Go.Proofs.YtgdghaijjhbegaaDoor
