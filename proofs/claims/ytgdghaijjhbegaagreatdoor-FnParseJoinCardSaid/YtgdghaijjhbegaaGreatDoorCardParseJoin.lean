/- The card of laws.FnParseJoin: for every input the statement returns true, and each argument reads as before. -/
import Derived.Test.YtgdghaijjhbegaaGreatDoorCards
import Derived.Test.YtgdghaijjhbegaaGreatDoorTie
import Derived.Test.YtgdghaijjhbegaaGreatDoorLawJ
import Derived.Test.YtgdghaijjhbegaaGreatDoorFrame
import Derived.Test.YtgdghaijjhbegaaGreatDoorLaid
import Derived.Test.YtgdghaijjhbegaaGreatDoorOpenEnts
import Derived.Test.YtgdghaijjhbegaaGreatDoorVars
namespace Go.Proofs.YtgdghaijjhbegaaGreatDoor.fnParseJoin
open Go.ChangeShapes Go.WideShapes Go.ChangeAt Go.RowKit
open Go.ChangeMaps (open_string shut_string)
open Go.Proofs.YtgdghaijjhbegaaGreatDoor
set_option maxRecDepth 100000

/-- A world in which the listed variables read as listed. -/
theorem reads (os : Os) {H : Type} (enc : TypeId × Value → H) : ∃ places gs, DataW.whole enc Tryz.prog ((World.laidAll Tryz.prog os Rows.fnParseJoinRow.laid).forCall (fun _ _ => 0) ⟨#[], #[.slice none 0 0, .slice none 0 0], []⟩).memory Tryz.f5.params.toList Rows.fnParseJoinSpec.vars false (#[.slice none 0 0, .slice none 0 0] : Array Value).toList 8 = some ([.nil, .nil], gs, places) := by
  have h : (DataW.whole enc Tryz.prog ((World.laidAll Tryz.prog os Rows.fnParseJoinRow.laid).forCall (fun _ _ => 0) ⟨#[], #[.slice none 0 0, .slice none 0 0], []⟩).memory Tryz.f5.params.toList Rows.fnParseJoinSpec.vars false (#[.slice none 0 0, .slice none 0 0] : Array Value).toList 8).map (·.1) = some [.nil, .nil] := by kernel_rfl
  obtain ⟨⟨a, gs, places⟩, h1, h2⟩ := Option.map_eq_some_iff.1 h
  obtain rfl : a = _ := h2
  exact ⟨places, gs, h1⟩

theorem contract (H : Type) (enc : TypeId × Value → H) (W : World) (base : Nat) (args : Array Value) (ds gs : List (DataW H)) (before : List MemPlace)
    (hval : ∀ (j : Nat) t v, Tryz.f5.params[j]? = some t → args[j]? = some v → Value.okWide Tryz.prog W .any base t v)
    (hW : DataW.Whole enc Tryz.prog Tryz.f5.params.toList Rows.fnParseJoinSpec.vars false W args.toList ds gs before) (hL0 : laidMetH Tryz.prog Rows.fnParseJoinRow.laid W) :
    Calls Tryz.prog 5 args W fun e W' => ∃ v, e = .returned v ∧ Rows.fnParseJoinSpec.post enc Tryz.prog Tryz.f5 false true false false W args v W' := by
  have hL : laidMet Tryz.prog Rows.fnParseJoinRow.laid W := by
    rw [MakeChecks.laidMetH_plain _ _ _ (by kernel_rfl)] at hL0
    exact hL0
  have hW' := hW
  obtain ⟨p, q, hA0, hV, rfl, hfz, hnd⟩ := hW
  have hA : DataW.TrodAll enc Tryz.prog W 0 (fun _ => true) true Tryz.f5.params.toList args.toList ds p := hA0
  rw [Tryz.params5] at hA hval
  obtain ⟨v0, vs0, d0, ds0, p0, q0, hargs, rfl, rfl, h0, r0⟩ := trodAll_cons hA
  obtain ⟨v1, vs1, d1, ds1, p1, q1, rfl, rfl, rfl, h1, r1⟩ := trodAll_cons r0
  obtain ⟨rfl, rfl, rfl⟩ := trodAll_nil r1
  obtain rfl : args = #[v0, v1] := by cases args; simp_all
  obtain ⟨g1, g2, g3, g4, rfl⟩ := vars_four hV
  have hPL : PLaid W W.heap.size := pLaid_of hL (by simp [Rows.fnParseJoinRow]) (by simp [Rows.fnParseJoinRow]) (by simp [Rows.fnParseJoinRow]) (by simp [Rows.fnParseJoinRow]) (by simp [Rows.fnParseJoinRow])
  have k0 := h0
  have lt0 : ∀ x ∈ p0, x.block < W.heap.size := by obtain ⟨m, hm⟩ := k0; exact DataW.trod_lt m _ _ _ hm
  obtain ⟨P0, b0, o0, cap0, es0, rfl, hp0, hw0, hs0, hl0, hc0, hB0⟩ := open_ents hPL.pos (hval 0 22 v0 rfl rfl) h0
  have E0 : Asked P0 b0 o0 cap0 es0 W := ⟨hp0, hw0, hs0, hl0, hc0, hB0, hPL⟩
  have k1 := h1
  have lt1 : ∀ x ∈ p1, x.block < W.heap.size := by obtain ⟨m, hm⟩ := k1; exact DataW.trod_lt m _ _ _ hm
  obtain ⟨P1, b1, o1, cap1, es1, rfl, hp1, hw1, hs1, hl1, hc1, hB1⟩ := open_ents hPL.pos (hval 1 22 v1 rfl rfl) h1
  have E1 : Asked P1 b1 o1 cap1 es1 W := ⟨hp1, hw1, hs1, hl1, hc1, hB1, hPL⟩
  clear hA0
  refine (FnParseJoin_any P0 P1 b0 o0 cap0 b1 o1 cap1 es0 es1 W E0 E1).mono fun e W' ⟨he, hg⟩ => ?_
  subst he
  exact ⟨_, rfl, post_of_below hW' (fun _ _ _ => trodAll_cons_mk (shut_bool Tryz.underlying4 _) trodAll_mk0) (fun _ hsp => (trodAll_cons_mk (WideElems.Trod_stays laidOut_true (by kernel_rfl) (of_decide_eq_true (by kernel_rfl)) k0 (fun x hx => hg.same (lt0 x hx)) (fun x hx => hsp x (by simp [hx]))) (trodAll_cons_mk (WideElems.Trod_stays laidOut_true (by kernel_rfl) (of_decide_eq_true (by kernel_rfl)) k1 (fun x hx => hg.same (lt1 x hx)) (fun x hx => hsp x (by simp [hx]))) trodAll_mk0))) (fun sp hsp => errs_stay hg sp _ (fun n hn => by simp only [Rows.fnParseJoinSpec, List.mem_cons, List.not_mem_nil, or_false] at hn; rcases hn with rfl | rfl | rfl | rfl <;> kernel_rfl) hV (fun x hx => hsp x (by simp [hx]))) (by simp)
    hg (ok_one (by kernel_rfl) rfl (okWide_bool_mk Tryz.underlying4 _))⟩

theorem lifted (os : Os) (started : os.Started) (H : Type) (enc : TypeId × Value → H) (F : Stop.Interp) :
    ReturnsInHanded {} Tryz.checked os 5 .any ((OpenSpec.ofChange Rows.fnParseJoinSpec).preRow enc Tryz.prog Tryz.f5 Rows.fnParseJoinRow.domain false Rows.fnParseJoinRow.laid) (((OpenSpec.ofChange Rows.fnParseJoinSpec).at F).post enc Tryz.prog Tryz.f5 false true false false) := by
  obtain ⟨places, gs, hx⟩ := reads os enc
  refine returnsInHanded_of_row (C := Tryz.checked) (s := OpenSpec.ofChange Rows.fnParseJoinSpec) ownKnob_none started (by kernel_rfl) Tryz.func5
    (witness_here (enc := enc) (C := Tryz.checked) (World.laidAll Tryz.prog os Rows.fnParseJoinRow.laid) #[.slice none 0 0, .slice none 0 0] (World.laidAll_os _ _ _) (World.shaped_of_ZipB (by kernel_rfl) (by kernel_rfl)) (by kernel_rfl)
      (OpenSpec.preRow_of_cond 8 hx (by kernel_rfl) (fun k hk => by cases hk) (by kernel_rfl) (by rw [MakeChecks.laidMetH_plain _ _ _ (by kernel_rfl)]; exact laidMet_laidAll _ (by kernel_rfl) (by kernel_rfl)))) ?_
  intro W base args ds gs before hval hW _ _ _ hL _ _
  exact contract H enc W base args ds gs before hval hW hL

theorem said : Rows.FnParseJoinSaid :=
  OpenClaim.holds_of_cond 5 Tryz.f5 rfl rfl rfl rfl rfl rfl rfl ⟨rfl, rfl, rfl, rfl, rfl⟩ rfl rfl rfl rfl rfl (by kernel_rfl) Tryz.func5 (by kernel_rfl)
    (of_decide_eq_true (by kernel_rfl)) (by unfold Func.isWrapper; first | (rw [if_pos (by decide +kernel)]; kernel_rfl) | (rw [if_neg (by decide +kernel)]; exact ⟨rfl, rfl⟩))
    (fun os started H enc _ F => by rw [OpenClaim.pre_eq_preRow]; exact lifted os started H enc F)

theorem plain (f : FuncId) (fn : Func) (hf : Tryz.pinned.checked.prog.funcNamed "loop.example/pub-ararchives/laws.FnParseJoin" = some f) (hfn : Tryz.pinned.checked.prog.funcs[f]? = some fn) :
    true = Tryz.pinned.checked.prog.looks [] ∧ ∀ (j : Nat) t, fn.params[j]? = some t → Tryz.pinned.checked.prog.wantsStandIn t = false := by
  obtain rfl : f = 5 := Option.some.inj ((show Tryz.prog.funcNamed "loop.example/pub-ararchives/laws.FnParseJoin" = some 5 by kernel_rfl).symm.trans hf) |>.symm
  obtain rfl : fn = Tryz.f5 := (Option.some.inj (Tryz.func5.symm.trans hfn)).symm
  refine ⟨by kernel_rfl, fun j t ht => ?_⟩
  rw [Tryz.params5] at ht
  have hm : t ∈ [22, 22] := by simpa using Array.mem_of_getElem? ht
  have hall : ([22, 22].all fun u => !Tryz.prog.wantsStandIn u) = true := by kernel_rfl
  exact (show Tryz.prog.wantsStandIn t = false by simpa using List.all_eq_true.1 hall t hm)

theorem card : Rows.FnParseJoinCardSaid :=
  Claim7.holds_tied_plain_at .later [] _ _ _ _ said (fun _ h => by cases h) (by kernel_rfl) (fun _ h => by cases h) fnParseJoin_row_tie rfl ⟨rfl, rfl⟩ (by kernel_rfl) rfl plain (by kernel_rfl)
end Go.Proofs.YtgdghaijjhbegaaGreatDoor.fnParseJoin
