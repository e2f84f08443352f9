/- The listed package-level errors: each holds a pointer to a text of its own; how two of them compare. -/
import Derived.Test.YtgdghaijjhbegaaDoorLaid
import Derived.Test.YtgdghaijjhbegaaDoorReadA
import Derived.LaidEql
namespace Go.Proofs.YtgdghaijjhbegaaDoor
open Go.RowKit
set_option maxRecDepth 100000

/-- A variable that holds an error: a pointer to a block below B. -/
def ErrVar (w : World) (B g : Nat) : Prop :=
  ∃ a : Addr, w.cell? ⟨g, 0, none⟩ = some (.iface 133 (.pointer (some a))) ∧ (∃ c t, w.heap[a.block]? = some (.cells c t (0, 0))) ∧ a.block < B ∧ g < B

theorem ErrVar.below {w w' : World} {B g : Nat} (h : ErrVar w B g) (hb : Below B w w') : ErrVar w' B g := by
  obtain ⟨a, h1, ⟨c, t, h2⟩, h3, h4⟩ := h
  exact ⟨a, (hb.cell (p := ⟨g, 0, none⟩) h4).trans h1, ⟨c, t, (hb.block _ h3).trans h2⟩, h3, h4⟩

theorem errVar_laid {W : World} {l : List (String × DataW Unit)} {n : String} {text : List UInt8} {g : Nat} (h : laidMet Tryd.prog l W) (hm : (n, (.iface "*errors.errorString" (.ptr (.agg [.lit (.string text)])) : DataW Unit)) ∈ l)
    (hg : Tryd.prog.globalNamed n = some g) (ht : (Tryd.prog.globals[g]?).map (·.type) = some 50) : ErrVar W W.heap.size g := by
  obtain ⟨r, ps, ⟨g0, t0, cs0, f0, p0, q0, hg0, ht0, hv0, hd0, _, e0⟩, _, hrows⟩ := laid_head h _ hm
  obtain rfl := Option.some.inj (hg.symm.trans hg0)
  obtain rfl := Option.some.inj (ht.symm.trans ht0)
  subst e0
  obtain ⟨l0⟩ := cs0
  have ok0 : ∀ u v, l0 = [.iface u v] → Value.okWide Tryd.prog W .any 0 u v := fun u v e => by
    subst e
    exact (hrows g 0 (by simp [MemPlace.row])).2 u v (by simpa using World.var?_cell hg0 hv0 0)
  obtain ⟨a0, s0, rfl, hc0, hs0, hz0, rfl⟩ := errorString_of_trod Tryd.underlying50 row_errorString Tryd.underlying133 Tryd.underlying135 rfl rfl Tryd.underlying9 (by kernel_rfl) (by kernel_rfl) hd0 ok0
  have hcell : W.cell? ⟨g, 0, none⟩ = some (.iface 133 (.pointer (some a0))) := by simpa using World.var?_cell hg0 hv0 0
  exact ⟨a0, hcell, (hrows a0.block a0.off (by simp [MemPlace.row])).1, World.block_lt_of_cell? W _ hc0, World.block_lt_of_cell? W _ hcell⟩

/-- How two errors compare. -/
theorem run_eql_errs (w : World) (a b : Addr) (ha : ∃ c t, w.heap[a.block]? = some (.cells c t (0, 0))) (hb : ∃ c t, w.heap[b.block]? = some (.cells c t (0, 0))) :
    (binOp .eql 50 (.iface 133 (.pointer (some a))) (.iface 133 (.pointer (some b)))).run Tryd.prog w = .ok (.bool (decide (a = b))) w := by
  obtain ⟨ca, ta, ha⟩ := ha
  obtain ⟨cb, tb, hb⟩ := hb
  obtain ⟨i, hi, hc⟩ := Option.map_eq_some_iff.1 (show (Tryd.prog.info? 133).map (·.comparable) = some true by kernel_rfl)
  obtain ⟨j, hj, hs⟩ := Option.map_eq_some_iff.1 (show (Tryd.prog.info? 135).map (·.size) = some 1 by kernel_rfl)
  by_cases e : a = b
  · subst e
    rw [run_eql_iface_ptr_same w a Tryd.underlying50 Tryd.underlying133 hi hc hj]; simp
  · rw [run_eql_iface_ptr_other w Tryd.underlying50 Tryd.underlying133 hi hc hj (by omega) e ha hb]; simp [e]
end Go.Proofs.YtgdghaijjhbegaaDoor
