/- What the listed package-level variables give the walks: the tables of numbers. -/
import Derived.Test.YtgdghaijjhbegaaDoorRows
import Derived.Test.YtgdghaijjhbegaaDoorFmtB
import Derived.Lib.LaidU8
import Derived.LaidMore
import Derived.Stop.LaidErr
namespace Go.Proofs.YtgdghaijjhbegaaDoor
open Go.RowKit
set_option maxRecDepth 100000

theorem tabIs_of_reads {P : Program} {W : World} {name : String} {k : IntKind} {zs : List Int} {g : Nat} {t e : TypeId} {n : Nat}
    (hg : P.globalNamed name = some g) (hty : (P.globals[g]?).map (·.type) = some t) (ht : P.underlying t = some (.array n e)) (he : P.underlying e = some (.int k)) (hce : P.cellsOf e = 1) (hct : P.cellsOf t = n)
    (h : Lib.VarReads P W name (Lib.tabData k zs)) : Lib.TabIs P W name k zs := by
  obtain ⟨g', t', cs, fuel, p, hg', ht', hvar, hd⟩ := h
  obtain rfl := Option.some.inj (hg.symm.trans hg')
  obtain rfl := Option.some.inj (hty.symm.trans ht')
  unfold Lib.TabIs
  rw [hvar, ← Lib.cells_of_tab ht he hce hct hd]

def tz64Tab : List Int := [0, 1, 56, 2, 57, 49, 28, 3, 61, 58, 42, 50, 38, 29, 17, 4, 62, 47, 59, 36, 45, 43, 51, 22, 53, 39, 33, 30, 24, 18, 12, 5, 63, 55, 48, 27, 60, 41, 37, 16, 46, 35, 44, 21, 52, 32, 23, 11, 54, 26, 40, 15, 34, 20, 31, 10, 25, 14, 19, 9, 13, 8, 7, 6]

theorem numLaid_of {W : World} {l : List (String × DataW Unit)} (h : laidMet Tryd.prog l W) (h1 : ("internal/strconv.uint64pow10", (Rows.laid_internal_strconv_uint64pow10 : DataW Unit)) ∈ l) (h2 : ("math/bits.deBruijn64tab", (Rows.laid_math_bits_deBruijn64tab : DataW Unit)) ∈ l) : NumLaid W := by
  have r1 := Lib.laidMet.reads h h1
  have r2 := Lib.laidMet.reads h h2
  have e1 : (Rows.laid_internal_strconv_uint64pow10 : DataW Unit) = Lib.tabData .u64 Lib.pow10Tab := by kernel_rfl
  have e2 : (Rows.laid_math_bits_deBruijn64tab : DataW Unit) = Lib.tabData .u8 tz64Tab := by kernel_rfl
  rw [e1] at r1
  rw [e2] at r2
  have gTz : Tryd.prog.globalNamed "math/bits.deBruijn64tab" = some 21 := by kernel_rfl
  have t1 := tabIs_of_reads (t := 188) gPow (by kernel_rfl) Tryd.underlying188 Tryd.underlying104 (by kernel_rfl) (by kernel_rfl) r1
  have t2 := tabIs_of_reads (t := 213) gTz (by kernel_rfl) Tryd.underlying213 Tryd.underlying5 (by kernel_rfl) (by kernel_rfl) r2
  exact ⟨t1, t2.cell gTz 7 (by decide)⟩
end Go.Proofs.YtgdghaijjhbegaaDoor

/- What the listed package-level errors give the walks: an interface that holds a pointer. -/
namespace Go.Proofs.YtgdghaijjhbegaaDoor
open Go.RowKit
set_option maxRecDepth 100000

theorem laid_head {P : Program} {W : World} : ∀ {l : List (String × DataW Unit)}, laidMet P l W → ∀ x ∈ l, ∃ r, laidMet P (x :: r) W
  | [], _, _, hm => by simp at hm
  | y :: r, h, x, hm => by
    rcases List.mem_cons.1 hm with rfl | hm
    · exact ⟨r, h⟩
    · exact laid_head (laidMet.tail h) x hm

theorem star_name : "*" ++ "errors.errorString" = "*errors.errorString" := by decide

theorem row_errorString (u : TypeId) (h : Tryd.prog.typeName? 3 u = some "*errors.errorString") : u = 133 :=
  typeName_ptr_named (nm := "errors.errorString") (by rw [star_name]; kernel_rfl) (by kernel_rfl) (by decide) u (by rw [star_name]; exact h)

/-- A listed error variable holds a pointer to its text. -/
theorem err_laid {W : World} {l : List (String × DataW Unit)} {n : String} {text : List UInt8} {g : Nat} (h : laidMet Tryd.prog l W) (hm : (n, (.iface "*errors.errorString" (.ptr (.agg [.lit (.string text)])) : DataW Unit)) ∈ l)
    (hg : Tryd.prog.globalNamed n = some g) (ht : (Tryd.prog.globals[g]?).map (·.type) = some 50) :
    ∃ ea, W.cell? ⟨g, 0, none⟩ = some (.iface 133 (.pointer (some ea))) := by
  obtain ⟨r, hr⟩ := laid_head h _ hm
  obtain ⟨a, s, hv, _⟩ := laid_sentinel hr hg ht Tryd.underlying50 row_errorString Tryd.underlying133 Tryd.underlying135 rfl rfl Tryd.underlying9 (by kernel_rfl) (by kernel_rfl)
  exact ⟨a, by simpa using World.var?_cell hg hv 0⟩

theorem eof_laid {W : World} {l : List (String × DataW Unit)} (h : laidMet Tryd.prog l W) (hm : ("io.EOF", (Rows.laid_io_EOF : DataW Unit)) ∈ l) :
    ∃ ea, W.cell? ⟨0, 0, none⟩ = some (.iface 133 (.pointer (some ea))) :=
  err_laid h hm (by kernel_rfl) (by kernel_rfl)
end Go.Proofs.YtgdghaijjhbegaaDoor
