/- The conversion of bytes to bytes. -/
import Derived.Test.YtgdghaijjhbegaaDoorCopyA
namespace Go.Proofs.YtgdghaijjhbegaaDoor
open Go.RowKit
set_option maxRecDepth 100000

/-- []byte(b) of bytes b: the same bytes; a mark behind them. -/
theorem bytes_again (W : World) (g n c : Nat) (cs : Array Value) (t : TypeId) (fz : Nat × Nat) (hg : W.heap[g]? = some (.cells cs t fz)) :
    ∃ W' fz', (convert 41 41 (.slice (some ⟨g, 0, none⟩) n c)).run Tryd.prog W = .ok (.slice (some ⟨g, 0, none⟩) n c) W' ∧ Below g W W' ∧ W'.heap[g]? = some (.cells cs t fz') ∧ W'.heap.size = W.heap.size := by
  have hsh : W.shape? g = some (t, cs.size) := by simp [World.shape?, hg]
  obtain ⟨lo, hi⟩ := fz
  refine ⟨W.freeze ⟨g, cs.size, none⟩ 1, if lo == hi then (cs.size, cs.size + 1) else (min lo cs.size, max hi (cs.size + 1)), ?_, ⟨rfl, rfl, rfl, by simp [World.freeze], fun k hk => ?_⟩, ?_, by simp [World.freeze]⟩
  · simp [convert, run_underlying Tryd.underlying41, run_underlying Tryd.underlying5, markStringish, hsh]
  · unfold World.freeze
    rw [if_neg (by decide)]
    simp only [Array.getElem?_modify]
    rw [if_neg (by omega)]
  · unfold World.freeze
    rw [if_neg (by decide)]
    simp only [Array.getElem?_modify, hg]
    simp

end Go.Proofs.YtgdghaijjhbegaaDoor
