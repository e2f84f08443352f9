/- The card of laws.FnParseCut: for every input the statement returns true, and each argument reads as before. -/
import Derived.Test.YtgdghaijjhbegaaDoorCards
import Derived.Test.YtgdghaijjhbegaaDoorTie
import Derived.Test.YtgdghaijjhbegaaDoorLawCut
import Derived.Test.YtgdghaijjhbegaaDoorFrame
import Derived.Test.YtgdghaijjhbegaaDoorLaid
import Derived.Test.YtgdghaijjhbegaaDoorOpenEnts
import Derived.Test.YtgdghaijjhbegaaDoorVars
namespace Go.Proofs.YtgdghaijjhbegaaDoor.fnParseCut
open Go.ChangeShapes Go.WideShapes Go.ChangeAt Go.RowKit
open Go.ChangeMaps (open_string shut_string)
open Go.Proofs.YtgdghaijjhbegaaDoor
set_option maxRecDepth 100000

/-- A world in which the listed variables read as listed. -/
theorem reads (os : Os) {H : Type} (enc : TypeId × Value → H) : ∃ places gs, DataW.whole enc Tryd.prog ((World.laidAll Tryd.prog os Rows.fnParseCutRow.laid).forCall (fun _ _ => 0) ⟨#[], #[.slice none 0 0, .int .i64 0, .int .i64 0], []⟩).memory Tryd.f7.params.toList Rows.fnParseCutSpec.vars false (#[.slice none 0 0, .int .i64 0, .int .i64 0] : Array Value).toList 8 = some ([.nil, .lit (.int .i64 0), .lit (.int .i64 0)], gs, places) := by
  have h : (DataW.whole enc Tryd.prog ((World.laidAll Tryd.prog os Rows.fnParseCutRow.laid).forCall (fun _ _ => 0) ⟨#[], #[.slice none 0 0, .int .i64 0, .int .i64 0], []⟩).memory Tryd.f7.params.toList Rows.fnParseCutSpec.vars false (#[.slice none 0 0, .int .i64 0, .int .i64 0] : Array Value).toList 8).map (·.1) = some [.nil, .lit (.int .i64 0), .lit (.int .i64 0)] := by kernel_rfl
  obtain ⟨⟨a, gs, places⟩, h1, h2⟩ := Option.map_eq_some_iff.1 h
  obtain rfl : a = _ := h2
  exact ⟨places, gs, h1⟩

theorem contract (H : Type) (enc : TypeId × Value → H) (W : World) (base : Nat) (args : Array Value) (ds gs : List (DataW H)) (before : List MemPlace)
    (hval : ∀ (j : Nat) t v, Tryd.f7.params[j]? = some t → args[j]? = some v → Value.okWide Tryd.prog W .any base t v)
    (hW : DataW.Whole enc Tryd.prog Tryd.f7.params.toList Rows.fnParseCutSpec.vars false W args.toList ds gs before) (hL0 : laidMetH Tryd.prog Rows.fnParseCutRow.laid W) :
    Calls Tryd.prog 7 args W fun e W' => ∃ v, e = .returned v ∧ Rows.fnParseCutSpec.post enc Tryd.prog Tryd.f7 false true false false W args v W' := by
  have hL : laidMet Tryd.prog Rows.fnParseCutRow.laid W := by
    rw [MakeChecks.laidMetH_plain _ _ _ (by kernel_rfl)] at hL0
    exact hL0
  have hW' := hW
  obtain ⟨p, q, hA0, hV, rfl, hfz, hnd⟩ := hW
  have hA : DataW.TrodAll enc Tryd.prog W 0 (fun _ => true) true Tryd.f7.params.toList args.toList ds p := hA0
  rw [Tryd.params7] at hA hval
  obtain ⟨v0, vs0, d0, ds0, p0, q0, hargs, rfl, rfl, h0, r0⟩ := trodAll_cons hA
  obtain ⟨v1, vs1, d1, ds1, p1, q1, rfl, rfl, rfl, h1, r1⟩ := trodAll_cons r0
  obtain ⟨v2, vs2, d2, ds2, p2, q2, rfl, rfl, rfl, h2, r2⟩ := trodAll_cons r1
  obtain ⟨rfl, rfl, rfl⟩ := trodAll_nil r2
  obtain rfl : args = #[v0, v1, v2] := by cases args; simp_all
  obtain ⟨g1, g2, g3, g4, rfl⟩ := vars_four hV
  have hPL : PLaid W W.heap.size := pLaid_of hL (by simp [Rows.fnParseCutRow]) (by simp [Rows.fnParseCutRow]) (by simp [Rows.fnParseCutRow]) (by simp [Rows.fnParseCutRow]) (by simp [Rows.fnParseCutRow])
  have k0 := h0
  have lt0 : ∀ x ∈ p0, x.block < W.heap.size := by obtain ⟨m, hm⟩ := k0; exact DataW.trod_lt m _ _ _ hm
  obtain ⟨P0, b0, o0, cap0, es0, rfl, hp0, hw0, hs0, hl0, hc0, hB0⟩ := open_ents hPL.pos (hval 0 25 v0 rfl rfl) h0
  have E0 : Asked P0 b0 o0 cap0 es0 W := ⟨hp0, hw0, hs0, hl0, hc0, hB0, hPL⟩
  obtain ⟨n1, rfl, rfl, rfl, w1⟩ := open_int Tryd.underlying3 (hval 1 3 v1 rfl rfl) h1
  obtain ⟨n2, rfl, rfl, rfl, w2⟩ := open_int Tryd.underlying3 (hval 2 3 v2 rfl rfl) h2
  clear hA0
  refine (FnParseCut_any P0 b0 o0 cap0 es0 n1 n2 W E0).mono fun e W' ⟨he, hg⟩ => ?_
  subst he
  exact ⟨_, rfl, post_of_below hW' (fun _ _ _ => trodAll_cons_mk (shut_bool Tryd.underlying4 _) trodAll_mk0) (fun _ hsp => (trodAll_cons_mk (WideElems.Trod_stays laidOut_true (by kernel_rfl) (of_decide_eq_true (by kernel_rfl)) k0 (fun x hx => hg.same (lt0 x hx)) (fun x hx => hsp x (by simp [hx]))) (trodAll_cons_mk (shut_int Tryd.underlying3 w1) (trodAll_cons_mk (shut_int Tryd.underlying3 w2) trodAll_mk0)))) (fun sp hsp => errs_stay hg sp _ (fun n hn => by simp only [Rows.fnParseCutSpec, List.mem_cons, List.not_mem_nil, or_false] at hn; rcases hn with rfl | rfl | rfl | rfl <;> kernel_rfl) hV (fun x hx => hsp x (by simp [hx]))) (by simp)
    hg (ok_one (by kernel_rfl) rfl (okWide_bool_mk Tryd.underlying4 _))⟩

theorem lifted (os : Os) (started : os.Started) (H : Type) (enc : TypeId × Value → H) (F : Stop.Interp) :
    ReturnsInHanded {} Tryd.checked os 7 .any ((OpenSpec.ofChange Rows.fnParseCutSpec).preRow enc Tryd.prog Tryd.f7 Rows.fnParseCutRow.domain false Rows.fnParseCutRow.laid) (((OpenSpec.ofChange Rows.fnParseCutSpec).at F).post enc Tryd.prog Tryd.f7 false true false false) := by
  obtain ⟨places, gs, hx⟩ := reads os enc
  refine returnsInHanded_of_row (C := Tryd.checked) (s := OpenSpec.ofChange Rows.fnParseCutSpec) ownKnob_none started (by kernel_rfl) Tryd.func7
    (witness_here (enc := enc) (C := Tryd.checked) (World.laidAll Tryd.prog os Rows.fnParseCutRow.laid) #[.slice none 0 0, .int .i64 0, .int .i64 0] (World.laidAll_os _ _ _) (World.shaped_of_ZipB (by kernel_rfl) (by kernel_rfl)) (by kernel_rfl)
      (OpenSpec.preRow_of_cond 8 hx (by kernel_rfl) (fun k hk => by cases hk) (by kernel_rfl) (by rw [MakeChecks.laidMetH_plain _ _ _ (by kernel_rfl)]; exact laidMet_laidAll _ (by kernel_rfl) (by kernel_rfl)))) ?_
  intro W base args ds gs before hval hW _ _ _ hL _ _
  exact contract H enc W base args ds gs before hval hW hL

theorem said : Rows.FnParseCutSaid :=
  OpenClaim.holds_of_cond 7 Tryd.f7 rfl rfl rfl rfl rfl rfl rfl ⟨rfl, rfl, rfl, rfl, rfl⟩ rfl rfl rfl rfl rfl (by kernel_rfl) Tryd.func7 (by kernel_rfl)
    (of_decide_eq_true (by kernel_rfl)) (by unfold Func.isWrapper; first | (rw [if_pos (by decide +kernel)]; kernel_rfl) | (rw [if_neg (by decide +kernel)]; exact ⟨rfl, rfl⟩))
    (fun os started H enc _ F => by rw [OpenClaim.pre_eq_preRow]; exact lifted os started H enc F)

theorem plain (f : FuncId) (fn : Func) (hf : Tryd.pinned.checked.prog.funcNamed "loop.example/pub-ararchives/laws.FnParseCut" = some f) (hfn : Tryd.pinned.checked.prog.funcs[f]? = some fn) :
    true = Tryd.pinned.checked.prog.looks [] ∧ ∀ (j : Nat) t, fn.params[j]? = some t → Tryd.pinned.checked.prog.wantsStandIn t = false := by
  obtain rfl : f = 7 := Option.some.inj ((show Tryd.prog.funcNamed "loop.example/pub-ararchives/laws.FnParseCut" = some 7 by kernel_rfl).symm.trans hf) |>.symm
  obtain rfl : fn = Tryd.f7 := (Option.some.inj (Tryd.func7.symm.trans hfn)).symm
  refine ⟨by kernel_rfl, fun j t ht => ?_⟩
  rw [Tryd.params7] at ht
  have hm : t ∈ [25, 3, 3] := by simpa using Array.mem_of_getElem? ht
  have hall : ([25, 3, 3].all fun u => !Tryd.prog.wantsStandIn u) = true := by kernel_rfl
  exact (show Tryd.prog.wantsStandIn t = false by simpa using List.all_eq_true.1 hall t hm)

theorem card : Rows.FnParseCutCardSaid :=
  Claim7.holds_tied_plain_at .later [] _ _ _ _ said (fun _ h => by cases h) (by kernel_rfl) (fun _ h => by cases h) fnParseCut_row_tie rfl ⟨rfl, rfl⟩ (by kernel_rfl) rfl plain (by kernel_rfl)
end Go.Proofs.YtgdghaijjhbegaaDoor.fnParseCut
