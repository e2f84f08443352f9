/- The program's own error variables read behind a call as before, where nothing below is written. -/
import Derived.Test.YtgdghaijjhbegaaDoorFrame
import Derived.Test.YtgdghaijjhbegaaDoorGetA
namespace Go.Proofs.YtgdghaijjhbegaaDoor
open Go.ChangeShapes Go.WideShapes Go.ChangeAt Go.RowKit Go.WideElems
set_option maxRecDepth 100000

theorem errs_stay {H : Type} {enc : TypeId × Value → H} {W W' : World} (hb : Below W.heap.size W W') (sp : Nat → Bool) :
    ∀ (ns : List String) {gs : List (DataW H)} {ps : List MemPlace}, (∀ n ∈ ns, ((Tryd.prog.globalNamed n).bind fun g => (Tryd.prog.globals[g]?).map (·.type)) = some 50) → DataW.TrodVars enc Tryd.prog W (fun _ => true) ns gs ps → (∀ x ∈ ps, sp x.block = true) →
      DataW.TrodVars enc Tryd.prog W' sp ns gs ps
  | [], [], _, _, h, _ => h
  | [], _ :: _, _, _, h, _ => h.elim
  | _ :: _, [], _, _, h, _ => h.elim
  | n :: ns, d :: gs, ps, hn, h, hs => by
    have hlt := h.lt
    obtain ⟨g, t, cs, fuel, p, q, hg, ht, hv, hd, hr, hps⟩ := h
    have hte := hn n List.mem_cons_self
    rw [hg, Option.bind_some, ht] at hte
    obtain rfl := Option.some.inj hte
    have hgs : g < W.heap.size := by
      unfold World.var? at hv
      rw [hg, Option.bind_some] at hv
      cases hh : W.heap[g]? with
      | none => rw [hh] at hv; cases hv
      | some o => exact (Array.getElem?_eq_some_iff.1 hh).1
    refine ⟨g, 50, cs, fuel, p, q, hg, ht, ?_, ?_, errs_stay hb sp ns (fun m hm => hn m (List.mem_cons_of_mem _ hm)) hr (fun x hx => hs x (by rw [hps]; simp [hx])), hps⟩
    · unfold World.var? at hv ⊢
      rw [hg, Option.bind_some] at hv ⊢
      rw [hb.block g hgs]; exact hv
    · exact DataW.trod_stays (kids_book laidOut_true (t0 := 50) (by kernel_rfl)) (book_sized (t0 := 50) (by kernel_rfl)) (fun h => by cases h) ⟨of_decide_eq_true (by kernel_rfl), book_self 50⟩ hd (fun x hx => hb.same (hlt x (by rw [hps]; simp [hx]))) (fun x hx => hs x (by rw [hps]; simp [hx]))

theorem vars_four {H : Type} {enc : TypeId × Value → H} {P : Program} {w : World} {sp : Nat → Bool} {n1 n2 n3 n4 : String} : ∀ {gs : List (DataW H)} {ps : List MemPlace}, DataW.TrodVars enc P w sp [n1, n2, n3, n4] gs ps → ∃ g1 g2 g3 g4, gs = [g1, g2, g3, g4]
  | [], _, h => h.elim
  | [_], _, h => by obtain ⟨_, _, _, _, _, _, _, _, _, _, h, _⟩ := h; exact h.elim
  | [_, _], _, h => by obtain ⟨_, _, _, _, _, _, _, _, _, _, ⟨_, _, _, _, _, _, _, _, _, _, h, _⟩, _⟩ := h; exact h.elim
  | [_, _, _], _, h => by obtain ⟨_, _, _, _, _, _, _, _, _, _, ⟨_, _, _, _, _, _, _, _, _, _, ⟨_, _, _, _, _, _, _, _, _, _, h, _⟩, _⟩, _⟩ := h; exact h.elim
  | [_, _, _, _], _, _ => ⟨_, _, _, _, rfl⟩
  | _ :: _ :: _ :: _ :: _ :: _, _, h => by obtain ⟨_, _, _, _, _, _, _, _, _, _, ⟨_, _, _, _, _, _, _, _, _, _, ⟨_, _, _, _, _, _, _, _, _, _, ⟨_, _, _, _, _, _, _, _, _, _, h, _⟩, _⟩, _⟩, _⟩ := h; exact h.elim

/-- What the listed errors give. -/
theorem pLaid_of {W : World} {l : List (String × DataW Unit)} (h : laidMet Tryd.prog l W) (h1 : ("io.EOF", (Rows.laid_io_EOF : DataW Unit)) ∈ l) (h2 : ("io.ErrUnexpectedEOF", (Rows.laid_io_ErrUnexpectedEOF : DataW Unit)) ∈ l)
    (h3 : ("loop.example/pub-ararchives/pub/ararchive.errCorruptArchive", (Rows.laid_loop_example_pub_ararchives_pub_ararchive_errCorruptArchive : DataW Unit)) ∈ l) (h4 : ("loop.example/pub-ararchives/pub/ararchive.errNotObject", (Rows.laid_loop_example_pub_ararchives_pub_ararchive_errNotObject : DataW Unit)) ∈ l)
    (h5 : ("strconv.ErrSyntax", (Rows.laid_strconv_ErrSyntax : DataW Unit)) ∈ l) : PLaid W W.heap.size :=
  ⟨errVar_laid h h1 (by kernel_rfl) (by kernel_rfl), errVar_laid h h2 (by kernel_rfl) (by kernel_rfl), errVar_laid h h3 (by kernel_rfl) (by kernel_rfl), errVar_laid h h4 (by kernel_rfl) (by kernel_rfl), synVar_laid h h5⟩
end Go.Proofs.YtgdghaijjhbegaaDoor
