/- The card of laws.FnExactHeader: for every input the statement returns true, and each argument reads as before. -/
import Derived.Test.YtgdghaijjhbegaaDoorCards
import Derived.Test.YtgdghaijjhbegaaDoorTie
import Derived.Test.YtgdghaijjhbegaaDoorFmtC
import Derived.Test.YtgdghaijjhbegaaDoorFrame
import Derived.Test.YtgdghaijjhbegaaDoorLaid
namespace Go.Proofs.YtgdghaijjhbegaaDoor.fnExactHeader
open Go.ChangeShapes Go.WideShapes Go.ChangeAt Go.RowKit
open Go.ChangeMaps (open_string shut_string)
open Go.Proofs.YtgdghaijjhbegaaDoor
set_option maxRecDepth 100000

/-- A world in which the listed variables read as listed. -/
theorem reads (os : Os) {H : Type} (enc : TypeId × Value → H) : ∃ places, DataW.whole enc Tryd.prog ((World.laidAll Tryd.prog os Rows.fnExactHeaderRow.laid).forCall (fun _ _ => 0) ⟨#[], #[.string ⟨#[]⟩, .int .i64 0], []⟩).memory Tryd.f6.params.toList Rows.fnExactHeaderSpec.vars false (#[.string ⟨#[]⟩, .int .i64 0] : Array Value).toList 8 = some ([.lit (.string []), .lit (.int .i64 0)], [], places) :=
  ⟨[], by kernel_rfl⟩

theorem contract (H : Type) (enc : TypeId × Value → H) (W : World) (base : Nat) (args : Array Value) (ds gs : List (DataW H)) (before : List MemPlace)
    (hval : ∀ (j : Nat) t v, Tryd.f6.params[j]? = some t → args[j]? = some v → Value.okWide Tryd.prog W .any base t v)
    (hW : DataW.Whole enc Tryd.prog Tryd.f6.params.toList Rows.fnExactHeaderSpec.vars false W args.toList ds gs before) (hL0 : laidMetH Tryd.prog Rows.fnExactHeaderRow.laid W) :
    Calls Tryd.prog 6 args W fun e W' => ∃ v, e = .returned v ∧ Rows.fnExactHeaderSpec.post enc Tryd.prog Tryd.f6 false true false false W args v W' := by
  have hL : laidMet Tryd.prog Rows.fnExactHeaderRow.laid W := by
    rw [MakeChecks.laidMetH_plain _ _ _ (by kernel_rfl)] at hL0
    exact hL0
  have hW' := hW
  obtain ⟨p, q, hA0, hV, rfl, hfz, hnd⟩ := hW
  have hA : DataW.TrodAll enc Tryd.prog W 0 (fun _ => true) true Tryd.f6.params.toList args.toList ds p := hA0
  rw [Tryd.params6] at hA hval
  obtain ⟨v0, vs0, d0, ds0, p0, q0, hargs, rfl, rfl, h0, r0⟩ := trodAll_cons hA
  obtain ⟨v1, vs1, d1, ds1, p1, q1, rfl, rfl, rfl, h1, r1⟩ := trodAll_cons r0
  obtain ⟨rfl, rfl, rfl⟩ := trodAll_nil r1
  obtain rfl : args = #[v0, v1] := by cases args; simp_all
  obtain ⟨rfl, rfl⟩ := trodVars_none hV
  obtain ⟨s0, rfl, rfl, rfl, hs0⟩ := open_string Tryd.underlying9 (hval 0 9 v0 rfl rfl) h0
  obtain ⟨⟨xs0⟩⟩ := s0
  have hl0 : xs0.length ≤ 9223372036854775807 := by have := hs0; unfold maxLen at this; simpa [ByteArray.size] using this
  obtain ⟨n1, rfl, rfl, rfl, w1⟩ := open_int Tryd.underlying2 (hval 1 2 v1 rfl rfl) h1
  clear hA0
  simp only [List.append_nil] at hW'
  refine (FnExactHeader_any xs0 n1 W hl0 (numLaid_of hL (by simp [Rows.fnExactHeaderRow]) (by simp [Rows.fnExactHeaderRow]))).mono fun e W' ⟨he, hg⟩ => ?_
  subst he
  exact ⟨_, rfl, post_of_below hW' (fun _ _ _ => trodAll_cons_mk (shut_bool Tryd.underlying4 _) trodAll_mk0) (fun _ _ => (trodAll_cons_mk (shut_string Tryd.underlying9 hs0) (trodAll_cons_mk (shut_int Tryd.underlying2 w1) trodAll_mk0))) (fun _ _ => rfl) (by simp)
    hg (ok_one (by kernel_rfl) rfl (okWide_bool_mk Tryd.underlying4 _))⟩

theorem lifted (os : Os) (started : os.Started) (H : Type) (enc : TypeId × Value → H) (F : Stop.Interp) :
    ReturnsInHanded {} Tryd.checked os 6 .any ((OpenSpec.ofChange Rows.fnExactHeaderSpec).preRow enc Tryd.prog Tryd.f6 Rows.fnExactHeaderRow.domain false Rows.fnExactHeaderRow.laid) (((OpenSpec.ofChange Rows.fnExactHeaderSpec).at F).post enc Tryd.prog Tryd.f6 false true false false) := by
  obtain ⟨places, hx⟩ := reads os enc
  refine returnsInHanded_of_row (C := Tryd.checked) (s := OpenSpec.ofChange Rows.fnExactHeaderSpec) ownKnob_none started (by kernel_rfl) Tryd.func6
    (witness_here (enc := enc) (C := Tryd.checked) (World.laidAll Tryd.prog os Rows.fnExactHeaderRow.laid) #[.string ⟨#[]⟩, .int .i64 0] (World.laidAll_os _ _ _) (World.shaped_of_ZipB (by kernel_rfl) (by kernel_rfl)) (by kernel_rfl)
      (OpenSpec.preRow_of_cond 8 hx (by kernel_rfl) (fun k hk => by cases hk) (by kernel_rfl) (by rw [MakeChecks.laidMetH_plain _ _ _ (by kernel_rfl)]; exact laidMet_laidAll _ (by kernel_rfl) (by kernel_rfl)))) ?_
  intro W base args ds gs before hval hW _ _ _ hL _ _
  exact contract H enc W base args ds gs before hval hW hL

theorem said : Rows.FnExactHeaderSaid :=
  OpenClaim.holds_of_cond 6 Tryd.f6 rfl rfl rfl rfl rfl rfl rfl ⟨rfl, rfl, rfl, rfl, rfl⟩ rfl rfl rfl rfl rfl (by kernel_rfl) Tryd.func6 (by kernel_rfl)
    (of_decide_eq_true (by kernel_rfl)) (by unfold Func.isWrapper; first | (rw [if_pos (by decide +kernel)]; kernel_rfl) | (rw [if_neg (by decide +kernel)]; exact ⟨rfl, rfl⟩))
    (fun os started H enc _ F => by rw [OpenClaim.pre_eq_preRow]; exact lifted os started H enc F)

theorem plain (f : FuncId) (fn : Func) (hf : Tryd.pinned.checked.prog.funcNamed "loop.example/pub-ararchives/laws.FnExactHeader" = some f) (hfn : Tryd.pinned.checked.prog.funcs[f]? = some fn) :
    true = Tryd.pinned.checked.prog.looks [] ∧ ∀ (j : Nat) t, fn.params[j]? = some t → Tryd.pinned.checked.prog.wantsStandIn t = false := by
  obtain rfl : f = 6 := Option.some.inj ((show Tryd.prog.funcNamed "loop.example/pub-ararchives/laws.FnExactHeader" = some 6 by kernel_rfl).symm.trans hf) |>.symm
  obtain rfl : fn = Tryd.f6 := (Option.some.inj (Tryd.func6.symm.trans hfn)).symm
  refine ⟨by kernel_rfl, fun j t ht => ?_⟩
  rw [Tryd.params6] at ht
  have hm : t ∈ [9, 2] := by simpa using Array.mem_of_getElem? ht
  have hall : ([9, 2].all fun u => !Tryd.prog.wantsStandIn u) = true := by kernel_rfl
  exact (show Tryd.prog.wantsStandIn t = false by simpa using List.all_eq_true.1 hall t hm)

theorem card : Rows.FnExactHeaderCardSaid :=
  Claim7.holds_tied_plain_at .later [] _ _ _ _ said (fun _ h => by cases h) (by kernel_rfl) (fun _ h => by cases h) fnExactHeader_row_tie rfl ⟨rfl, rfl⟩ (by kernel_rfl) rfl plain (by kernel_rfl)
end Go.Proofs.YtgdghaijjhbegaaDoor.fnExactHeader
