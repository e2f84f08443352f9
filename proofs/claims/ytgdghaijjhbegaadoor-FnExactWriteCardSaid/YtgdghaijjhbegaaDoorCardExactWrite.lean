/- The card of laws.FnExactWrite: for every input the statement returns true, and each argument reads as before. -/
import Derived.Test.YtgdghaijjhbegaaDoorCards
import Derived.Test.YtgdghaijjhbegaaDoorTie
import Derived.Test.YtgdghaijjhbegaaDoorWriteC
import Derived.Test.YtgdghaijjhbegaaDoorFrame
import Derived.Test.YtgdghaijjhbegaaDoorLaidEof
import Derived.Test.YtgdghaijjhbegaaDoorOpenEnts
namespace Go.Proofs.YtgdghaijjhbegaaDoor.fnExactWrite
open Go.ChangeShapes Go.WideShapes Go.ChangeAt Go.RowKit
open Go.ChangeMaps (open_string shut_string)
open Go.Proofs.YtgdghaijjhbegaaDoor
set_option maxRecDepth 100000

/-- A world in which the listed variables read as listed. -/
theorem reads (os : Os) {H : Type} (enc : TypeId × Value → H) : ∃ places, DataW.whole enc Tryd.prog ((World.laidAll Tryd.prog os Rows.fnExactWriteRow.laid).forCall (fun _ _ => 0) ⟨#[], #[.slice none 0 0], []⟩).memory Tryd.f5.params.toList Rows.fnExactWriteSpec.vars false (#[.slice none 0 0] : Array Value).toList 8 = some ([.nil], [], places) :=
  ⟨[], by kernel_rfl⟩

theorem contract (H : Type) (enc : TypeId × Value → H) (W : World) (base : Nat) (args : Array Value) (ds gs : List (DataW H)) (before : List MemPlace)
    (hval : ∀ (j : Nat) t v, Tryd.f5.params[j]? = some t → args[j]? = some v → Value.okWide Tryd.prog W .any base t v)
    (hW : DataW.Whole enc Tryd.prog Tryd.f5.params.toList Rows.fnExactWriteSpec.vars false W args.toList ds gs before) (hL0 : laidMetH Tryd.prog Rows.fnExactWriteRow.laid W) :
    Calls Tryd.prog 5 args W fun e W' => ∃ v, e = .returned v ∧ Rows.fnExactWriteSpec.post enc Tryd.prog Tryd.f5 false true false false W args v W' := by
  have hL : laidMet Tryd.prog Rows.fnExactWriteRow.laid W := by
    rw [MakeChecks.laidMetH_plain _ _ _ (by kernel_rfl)] at hL0
    exact hL0
  have hW' := hW
  obtain ⟨p, q, hA0, hV, rfl, hfz, hnd⟩ := hW
  have hA : DataW.TrodAll enc Tryd.prog W 0 (fun _ => true) true Tryd.f5.params.toList args.toList ds p := hA0
  rw [Tryd.params5] at hA hval
  obtain ⟨v0, vs0, d0, ds0, p0, q0, hargs, rfl, rfl, h0, r0⟩ := trodAll_cons hA
  obtain ⟨rfl, rfl, rfl⟩ := trodAll_nil r0
  obtain rfl : args = #[v0] := by cases args; simp_all
  obtain ⟨rfl, rfl⟩ := trodVars_none hV
  have k0 := h0
  have lt0 : ∀ x ∈ p0, x.block < W.heap.size := by obtain ⟨m, hm⟩ := k0; exact DataW.trod_lt m _ _ _ hm
  have hN := numLaid_of hL (by simp [Rows.fnExactWriteRow]) (by simp [Rows.fnExactWriteRow])
  obtain ⟨ea, hE⟩ := eof_laid hL (by simp [Rows.fnExactWriteRow])
  obtain ⟨P0, b0, o0, cap0, es0, rfl, hp0, hw0, hs0, hl0, hc0, hB0⟩ := open_ents (by have := hN.size; omega) (hval 0 25 v0 rfl rfl) h0
  clear hA0
  refine (FnExactWrite_any P0 b0 o0 cap0 es0 ea W hp0 hw0 hs0 hl0 hc0 hB0 hN hE).mono fun e W' ⟨he, hg⟩ => ?_
  subst he
  exact ⟨_, rfl, post_of_below hW' (fun _ _ _ => trodAll_cons_mk (shut_bool Tryd.underlying4 _) trodAll_mk0) (fun _ hsp => (trodAll_cons_mk (WideElems.Trod_stays laidOut_true (by kernel_rfl) (of_decide_eq_true (by kernel_rfl)) k0 (fun x hx => hg.same (lt0 x hx)) (fun x hx => hsp x (by simp [hx]))) trodAll_mk0)) (fun _ _ => rfl) (by simp)
    hg (ok_one (by kernel_rfl) rfl (okWide_bool_mk Tryd.underlying4 _))⟩

theorem lifted (os : Os) (started : os.Started) (H : Type) (enc : TypeId × Value → H) (F : Stop.Interp) :
    ReturnsInHanded {} Tryd.checked os 5 .any ((OpenSpec.ofChange Rows.fnExactWriteSpec).preRow enc Tryd.prog Tryd.f5 Rows.fnExactWriteRow.domain false Rows.fnExactWriteRow.laid) (((OpenSpec.ofChange Rows.fnExactWriteSpec).at F).post enc Tryd.prog Tryd.f5 false true false false) := by
  obtain ⟨places, hx⟩ := reads os enc
  refine returnsInHanded_of_row (C := Tryd.checked) (s := OpenSpec.ofChange Rows.fnExactWriteSpec) ownKnob_none started (by kernel_rfl) Tryd.func5
    (witness_here (enc := enc) (C := Tryd.checked) (World.laidAll Tryd.prog os Rows.fnExactWriteRow.laid) #[.slice none 0 0] (World.laidAll_os _ _ _) (World.shaped_of_ZipB (by kernel_rfl) (by kernel_rfl)) (by kernel_rfl)
      (OpenSpec.preRow_of_cond 8 hx (by kernel_rfl) (fun k hk => by cases hk) (by kernel_rfl) (by rw [MakeChecks.laidMetH_plain _ _ _ (by kernel_rfl)]; exact laidMet_laidAll _ (by kernel_rfl) (by kernel_rfl)))) ?_
  intro W base args ds gs before hval hW _ _ _ hL _ _
  exact contract H enc W base args ds gs before hval hW hL

theorem said : Rows.FnExactWriteSaid :=
  OpenClaim.holds_of_cond 5 Tryd.f5 rfl rfl rfl rfl rfl rfl rfl ⟨rfl, rfl, rfl, rfl, rfl⟩ rfl rfl rfl rfl rfl (by kernel_rfl) Tryd.func5 (by kernel_rfl)
    (of_decide_eq_true (by kernel_rfl)) (by unfold Func.isWrapper; first | (rw [if_pos (by decide +kernel)]; kernel_rfl) | (rw [if_neg (by decide +kernel)]; exact ⟨rfl, rfl⟩))
    (fun os started H enc _ F => by rw [OpenClaim.pre_eq_preRow]; exact lifted os started H enc F)

theorem plain (f : FuncId) (fn : Func) (hf : Tryd.pinned.checked.prog.funcNamed "loop.example/pub-ararchives/laws.FnExactWrite" = some f) (hfn : Tryd.pinned.checked.prog.funcs[f]? = some fn) :
    true = Tryd.pinned.checked.prog.looks [] ∧ ∀ (j : Nat) t, fn.params[j]? = some t → Tryd.pinned.checked.prog.wantsStandIn t = false := by
  obtain rfl : f = 5 := Option.some.inj ((show Tryd.prog.funcNamed "loop.example/pub-ararchives/laws.FnExactWrite" = some 5 by kernel_rfl).symm.trans hf) |>.symm
  obtain rfl : fn = Tryd.f5 := (Option.some.inj (Tryd.func5.symm.trans hfn)).symm
  refine ⟨by kernel_rfl, fun j t ht => ?_⟩
  rw [Tryd.params5] at ht
  have hm : t ∈ [25] := by simpa using Array.mem_of_getElem? ht
  have hall : ([25].all fun u => !Tryd.prog.wantsStandIn u) = true := by kernel_rfl
  exact (show Tryd.prog.wantsStandIn t = false by simpa using List.all_eq_true.1 hall t hm)

theorem card : Rows.FnExactWriteCardSaid :=
  Claim7.holds_tied_plain_at .later [] _ _ _ _ said (fun _ h => by cases h) (by kernel_rfl) (fun _ h => by cases h) fnExactWrite_row_tie rfl ⟨rfl, rfl⟩ (by kernel_rfl) rfl plain (by kernel_rfl)
end Go.Proofs.YtgdghaijjhbegaaDoor.fnExactWrite
