/- What the listed package-level errors give the walks: an interface that holds a pointer. -/
import Derived.Test.YtgdghaijjhbegaaDoorLaid
import Derived.Stop.LaidErr
namespace Go.Proofs.YtgdghaijjhbegaaDoor
open Go.RowKit
set_option maxRecDepth 100000

theorem laid_head {P : Program} {W : World} : ∀ {l : List (String × DataW Unit)}, laidMet P l W → ∀ x ∈ l, ∃ r, laidMet P (x :: r) W
  | [], _, _, hm => by simp at hm
  | y :: r, h, x, hm => by
    rcases List.mem_cons.1 hm with rfl | hm
    · exact ⟨r, h⟩
    · exact laid_head (laidMet.tail h) x hm

theorem star_name : "*" ++ "errors.errorString" = "*errors.errorString" := by decide

theorem row_errorString (u : TypeId) (h : Tryd.prog.typeName? 3 u = some "*errors.errorString") : u = 133 :=
  typeName_ptr_named (nm := "errors.errorString") (by rw [star_name]; kernel_rfl) (by kernel_rfl) (by decide) u (by rw [star_name]; exact h)

/-- A listed error variable holds a pointer to its text. -/
theorem err_laid {W : World} {l : List (String × DataW Unit)} {n : String} {text : List UInt8} {g : Nat} (h : laidMet Tryd.prog l W) (hm : (n, (.iface "*errors.errorString" (.ptr (.agg [.lit (.string text)])) : DataW Unit)) ∈ l)
    (hg : Tryd.prog.globalNamed n = some g) (ht : (Tryd.prog.globals[g]?).map (·.type) = some 50) :
    ∃ ea, W.cell? ⟨g, 0, none⟩ = some (.iface 133 (.pointer (some ea))) := by
  obtain ⟨r, hr⟩ := laid_head h _ hm
  obtain ⟨a, s, hv, _⟩ := laid_sentinel hr hg ht Tryd.underlying50 row_errorString Tryd.underlying133 Tryd.underlying135 rfl rfl Tryd.underlying9 (by kernel_rfl) (by kernel_rfl)
  exact ⟨a, by simpa using World.var?_cell hg hv 0⟩

theorem eof_laid {W : World} {l : List (String × DataW Unit)} (h : laidMet Tryd.prog l W) (hm : ("io.EOF", (Rows.laid_io_EOF : DataW Unit)) ∈ l) :
    ∃ ea, W.cell? ⟨0, 0, none⟩ = some (.iface 133 (.pointer (some ea))) :=
  err_laid h hm (by kernel_rfl) (by kernel_rfl)
end Go.Proofs.YtgdghaijjhbegaaDoor
