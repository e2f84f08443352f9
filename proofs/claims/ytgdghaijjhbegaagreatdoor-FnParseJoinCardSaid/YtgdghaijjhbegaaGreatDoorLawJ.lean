/- The walk of laws.FnParseJoin: it returns true. -/
import Derived.Test.YtgdghaijjhbegaaGreatDoorLawE
import Derived.Test.YtgdghaijjhbegaaGreatDoorJoinA
import Derived.Test.YtgdghaijjhbegaaGreatDoorTails
namespace Go.Proofs.YtgdghaijjhbegaaGreatDoor
open Go.RowKit
set_option maxRecDepth 100000

theorem outs_get (vb : Bool) (es : List Ent) : ∀ n (_ : n ≤ es.length) i (_ : i < n), (outs vb es n)[i]? = some (outE vb (posAt es i + 60) (es[i]'(by omega)))
  | 0, _, _, h => absurd h (Nat.not_lt_zero _)
  | n + 1, hn, i, h => by
    rw [outs_succ vb es n (by omega)]
    by_cases hi : i < n
    · rw [List.getElem?_append_left (by rw [outs_length vb es n (by omega)]; exact hi)]
      exact outs_get vb es n (by omega) i hi
    · obtain rfl : i = n := by omega
      rw [List.getElem?_append_right (by rw [outs_length vb es i (by omega)]; omega), outs_length vb es i (by omega), Nat.sub_self]
      rfl

theorem OwnEnts.slice {w : World} {B : Nat} {v : Value} {es : List Ent} (h : OwnEnts w B v es) : ∃ p c, v = .slice p es.length c ∧ (0 < es.length → ∃ g, p = some ⟨g, 0, none⟩ ∧ B ≤ g ∧ g < w.heap.size) := by
  rcases h.2 with ⟨rfl, h0⟩ | ⟨g, cap, cur, rfl, hb, hg, _⟩
  · exact ⟨none, 0, by rw [h0], fun h => by omega⟩
  · exact ⟨_, _, rfl, fun _ => ⟨g, rfl, hb, (Array.getElem?_eq_some_iff.1 hg).1⟩⟩

theorem OwnEnts.trod {w w' : World} {B : Nat} {v : Value} {es : List Ent} (h : OwnEnts w B v es) {S : Nat → Prop} (ht : Trod S w w') (hS : ∀ k, v.ownBlock = some k → ¬ S k) : OwnEnts w' B v es := by
  refine ⟨h.1, ?_⟩
  rcases h.2 with hn | ⟨g, cap, cur, rfl, hb, hgg, rest⟩
  · exact .inl hn
  · refine .inr ⟨g, cap, cur, rfl, hb, ?_, rest⟩
    rw [ht.block g (Array.getElem?_eq_some_iff.1 hgg).1 (hS g rfl)]
    exact hgg

theorem OwnEnts.block_lt {w : World} {B : Nat} {v : Value} {es : List Ent} (h : OwnEnts w B v es) {k : Nat} (hk : v.ownBlock = some k) : B ≤ k ∧ k < w.heap.size := World.ownsRow.lt h k hk

section
variable {p : Option Addr} {b o cap : Nat} {es : List Ent} {w : World} (h : Asked p b o cap es w)
include h
theorem Asked.parseOwn (hok : entriesOkB es = true) (vb : Bool) (W : World) (hb : Below w.heap.size w W) : Hid (Calls Tryz.prog 10 #[.string ⟨(archB es).toArray⟩, .bool vb] W
    fun x w' => ∃ p1 c1, x = .returned (.tuple #[.slice p1 (outs vb es es.length).length c1, .bool true]) ∧ OwnEnts w' W.heap.size (.slice p1 (outs vb es es.length).length c1) (outs vb es es.length) ∧ Below W.heap.size W w') := by
  unfold entriesOkB at hok
  simp only [Bool.and_eq_true, decide_eq_true_eq] at hok
  refine (iParse_ok vb es _ W hok.1 rfl (by omega) (PLaid.mono (h.hL.below hb) hb.size)).mono ?_
  rintro x w' ⟨v, rfl, hv, hbb⟩
  obtain ⟨p1, c1, rfl, _⟩ := hv.slice
  exact ⟨p1, c1, rfl, hv, hbb⟩
theorem Asked.parseBoth {fs : List Ent} (hok : es.all Ent.okB = true) (hok2 : fs.all Ent.okB = true) (hl : es.length + fs.length ≤ 200) (vb : Bool) (data : ByteArray) (hd : data = ⟨(archB (es ++ fs)).toArray⟩) (W : World) (hb : Below w.heap.size w W) : Hid (Calls Tryz.prog 10 #[.string data, .bool vb] W
    fun x w' => ∃ p1 c1, x = .returned (.tuple #[.slice p1 (outs vb (es ++ fs) (es ++ fs).length).length c1, .bool true]) ∧ OwnEnts w' W.heap.size (.slice p1 (outs vb (es ++ fs) (es ++ fs).length).length c1) (outs vb (es ++ fs) (es ++ fs).length) ∧ Below W.heap.size W w') := by
  subst hd
  refine (iParse_ok vb (es ++ fs) _ W (by rw [List.all_append, hok, hok2]; rfl) rfl (by rw [List.length_append]; omega) (PLaid.mono (h.hL.below hb) hb.size)).mono ?_
  rintro x w' ⟨v, rfl, hv, hbb⟩
  obtain ⟨p1, c1, rfl, _⟩ := hv.slice
  exact ⟨p1, c1, rfl, hv, hbb⟩
end

theorem wpList_run_g {P : Program} {w w' : World} {ops : Array Oper} {rest : List Oper} {o : Oper} {a : Act} {Q : Exit → Act → World → Prop} {v : Value} (hw : Region.wanted o (yielded ops a.tmps) = true)
    (hrun : (execOp a.eval o).run P w = .ok (.value v) w') (h : wpList P ops Q rest (a.put o.dst v) w') : wpList P ops Q (o :: rest) a w :=
  BigFrame.wpList_want hw fun K hK => by
    unfold Oper.wp
    rw [hrun]
    exact hK _ _ h

theorem behind_at (L : Nat) (h : 8 ≤ L) (es : List Ent) : es.map (Ent.behind (L - 8)) = es.map (fun e => e.at (e.off + ((L : Int) - 8))) := by
  apply List.map_congr_left
  intro e _
  simp only [Ent.behind, Ent.at, Ent.mk.injEq, true_and]
  omega

theorem cat_join (xs ys : List UInt8) (n : Nat) (hn : n = ys.length) : ByteArray.mk xs.toArray ++ (ByteArray.mk ys.toArray).extract 8 n = ⟨(xs ++ ys.drop 8).toArray⟩ := by
  subst hn
  have : (ByteArray.mk ys.toArray).extract 8 ys.length = ⟨(ys.drop 8).toArray⟩ := by
    rw [ByteArray.extract_mk]
    simp only [ByteArray.mk.injEq]
    rw [List.take_of_length_le (by rw [List.length_drop]; omega)]
  rw [this]
  exact mk_append xs (ys.drop 8)

set_option maxHeartbeats 8000000 in
theorem FnParseJoin_any (p p2 : Option Addr) (b o cap b2 o2 cap2 : Nat) (es fs : List Ent) (w : World) (h : Asked p b o cap es w) (k : Asked p2 b2 o2 cap2 fs w) :
    Calls Tryz.prog 5 #[.slice p es.length cap, .slice p2 fs.length cap2] w fun e w' => e = .returned (.bool true) ∧ Below w.heap.size w w' := by
  have hPs := h.parses
  have hb0 := Below.refl w.heap.size w
  cases hf : fitsB es
  · have hF := h.fits _ hf w hb0
    clear hf
    go_enter Tryz.func5, Tryz.ntmps5
    go_wp2_with (go_at_call 7; (with_reducible refine (hF.out).mono ?_); rintro e w1 ⟨rfl, hb1⟩)
    go_ret
    exact ⟨rfl, hb1⟩
  · have hF := h.fits _ hf w hb0
    cases hf2 : fitsB fs
    · have hF2 := k.fits _ hf2
      clear hf hf2
      go_enter Tryz.func5, Tryz.ntmps5
      go_wp2_with (first
        | (go_at_call 7; (with_reducible refine (hF.out).mono ?_); rintro e w1 ⟨rfl, hb1⟩; clear hF)
        | (go_at_call 7; (with_reducible refine ((hF2 _ hb1).out).mono ?_); rintro e w2 ⟨rfl, hb2⟩))
      go_ret
      exact ⟨rfl, hb1.trans (hb2.mono hb1.size)⟩
    · have hF2 := k.fits _ hf2
      cases hok : entriesOkB es
      · have hO := h.oks hf _ hok
        clear hf hok hf2
        go_enter Tryz.func5, Tryz.ntmps5
        go_wp2_with (first
          | (go_at_call 7; (with_reducible refine (hF.out).mono ?_); rintro e w1 ⟨rfl, hb1⟩; clear hF)
          | (go_at_call 7; (with_reducible refine ((hF2 _ hb1).out).mono ?_); rintro e w2 ⟨rfl, hb2⟩; have hb12 := hb1.trans (hb2.mono hb1.size))
          | (go_at_call 8; (with_reducible refine ((hO _ hb12).out).mono ?_); rintro e w3 ⟨rfl, hb3⟩; have hb13 := hb12.trans (hb3.mono hb12.size))
          | (go_at_call 9; (with_reducible refine ((hPs _ hb13).out).mono ?_); rintro e w4 ⟨rfl, hb4⟩))
        go_ret
        exact ⟨rfl, hb13.trans (hb4.mono hb13.size)⟩
      · have hO := h.oks hf _ hok
        cases hok2 : entriesOkB fs
        · have hO2 := k.oks hf2 _ hok2
          clear hf hok hf2 hok2
          go_enter Tryz.func5, Tryz.ntmps5
          go_wp2_with (first
            | (go_at_call 7; (with_reducible refine (hF.out).mono ?_); rintro e w1 ⟨rfl, hb1⟩; clear hF)
            | (go_at_call 7; (with_reducible refine ((hF2 _ hb1).out).mono ?_); rintro e w2 ⟨rfl, hb2⟩; have hb12 := hb1.trans (hb2.mono hb1.size))
            | (go_at_call 8; (with_reducible refine ((hO _ hb12).out).mono ?_); rintro e w3 ⟨rfl, hb3⟩; have hb13 := hb12.trans (hb3.mono hb12.size); clear hO)
            | (go_at_call 8; (with_reducible refine ((hO2 _ hb13).out).mono ?_); rintro e w5 ⟨rfl, hb5⟩; have hb15 := hb13.trans (hb5.mono hb13.size))
            | (go_at_call 9; (with_reducible refine ((hPs _ hb15).out).mono ?_); rintro e w4 ⟨rfl, hb4⟩))
          go_ret
          exact ⟨rfl, hb15.trans (hb4.mono hb15.size)⟩
        · have hO2 := k.oks hf2 _ hok2
          by_cases hlen : es.length + fs.length ≤ 200
          · have hA := h.archive hok
            have hA2 := k.archive hok2
            have hP := h.parseOwn hok true
            have hP2 := k.parseOwn hok2 true
            have hea : es.all Ent.okB = true ∧ es.length ≤ 200 := entriesOk_of hok
            have heb : fs.all Ent.okB = true ∧ fs.length ≤ 200 := entriesOk_of hok2
            have hsz : (ByteArray.mk (archB es).toArray).size = (archB es).length := by simp [ByteArray.size]
            have hsz2 : (ByteArray.mk (archB fs).toArray).size = (archB fs).length := by simp [ByteArray.size]
            have hl8 : 8 ≤ (archB fs).length := by simp [archB, magicB]
            have hl9 : 8 ≤ (archB es).length := by simp [archB, magicB]
            have hll := archB_len hok
            have hll2 := archB_len hok2
            have hcat := cat_join (archB es) (archB fs) _ rfl
            rw [archB_join] at hcat
            have hP3 := h.parseBoth hea.1 heb.1 hlen true _ hcat
            have hle1 := outs_le (vb := true) hok
            have hle2 := outs_le (vb := true) hok2
            have hjo := outs_join true es fs fs.length (Nat.le_refl _)
            rw [← List.length_append] at hjo
            have hbound : ∀ i (hi : i < (outs true fs fs.length).length), 0 ≤ (outs true fs fs.length)[i].off ∧ (outs true fs fs.length)[i].off ≤ 1000000000 := by
              intro i hi
              have hi' : i < fs.length := by rw [outs_length true fs fs.length (Nat.le_refl _)] at hi; exact hi
              have h1 := outs_get true fs fs.length (Nat.le_refl _) i hi'
              rw [List.getElem?_eq_getElem hi] at h1
              have h2 := Option.some.inj h1
              have h3 := posAt_le_big heb.1 i (by omega)
              rw [h2]
              simp only [outE]
              omega
            have hpe := posAt_end es
            rw [hpe] at hjo
            have Hjo := hide hjo
            have Hsame := fun p1 b1 c1 p2 b2 c2 W h1 h2 h3 h4 => hide (Same_any p1 p2 b1 0 c1 b2 0 c2 (outs true (es ++ fs) (es ++ fs).length) W h1 h2 h3 h4 (by rw [outs_length true _ _ (Nat.le_refl _), List.length_append]; omega))
            clear hf hok hf2 hok2 hea heb hcat hjo hpe
            generalize outs true (es ++ fs) (es ++ fs).length = os3 at *
            generalize outs true es es.length = os1 at *
            generalize outs true fs fs.length = os2 at *
            generalize archB es = acc1 at *
            generalize archB fs = acc2 at *
            go_enter Tryz.func5, Tryz.ntmps5
            go_wp2_with (first
              | (go_at_call 7; (with_reducible refine (hF.out).mono ?_); rintro e w1 ⟨rfl, hb1⟩; clear hF)
              | (go_at_call 7; (with_reducible refine ((hF2 _ hb1).out).mono ?_); rintro e w2 ⟨rfl, hb2⟩; have hb12 := hb1.trans (hb2.mono hb1.size))
              | (go_at_call 8; (with_reducible refine ((hO _ hb12).out).mono ?_); rintro e w3 ⟨rfl, hb3⟩; have hb13 := hb12.trans (hb3.mono hb12.size); clear hO)
              | (go_at_call 8; (with_reducible refine ((hO2 _ hb13).out).mono ?_); rintro e w4 ⟨rfl, hb4⟩; have hb14 := hb13.trans (hb4.mono hb13.size))
              | (go_at_call 11; (with_reducible refine ((hA _ hb14).out).mono ?_); rintro e w5 ⟨rfl, hb5⟩; have hb15 := hb14.trans (hb5.mono hb14.size); clear hA)
              | (go_at_call 11; (with_reducible refine ((hA2 _ hb15).out).mono ?_); rintro e w6 ⟨rfl, hb6⟩; have hb16 := hb15.trans (hb6.mono hb15.size))
              | (go_at_call 10; (with_reducible refine ((hP _ hb16).out).mono ?_); rintro e w7 ⟨p7, c7, rfl, ho7, hb7⟩; have hb17 := hb16.trans (hb7.mono hb16.size); clear hP)
              | (go_at_call 10; (with_reducible refine ((hP2 _ hb17).out).mono ?_); rintro e w8 ⟨p8, c8, rfl, ho8, hb8⟩; have hb18 := hb17.trans (hb8.mono hb17.size); clear hP2)
              | (go_at_call 10; (with_reducible refine ((hP3 _ hb18).out).mono ?_); rintro e w9 ⟨p9, c9, rfl, ho9, hb9⟩; have hb19 := hb18.trans (hb9.mono hb18.size)))
            go_loopw [63] (fun s wr => ∃ n : Nat, n ≤ os2.length ∧ s = .int .i64 n ∧ OwnEnts wr w7.heap.size (.slice p8 os2.length c8) (placedTo ((acc1.length : Int) - 8) os2 n) ∧ Trod (fun j => (Value.slice p8 os2.length c8).ownBlock = some j) w9 wr) (fun s _ => os2.length - (intOf s).toNat)
            case atStart => exact ⟨0, Nat.zero_le _, rfl, by rw [placedTo_zero]; exact ho8.later hb9, Trod.refl _⟩
            case round =>
              obtain ⟨n, hn, rfl, hoy, ht⟩ := hrel
              by_cases hlt : n < os2.length
              · have hpl := placedTo_length ((acc1.length : Int) - 8) os2 n
                obtain ⟨g, rfl, hg1, hg2⟩ := hoy.ptr (by rw [hpl]; omega)
                have c7' := hoy.cell hpl (by rw [hpl]; exact hlt) (show 7 < 8 by omega)
                have fz := hoy.frozen hpl (n * 8 + 7)
                rw [placedTo_get _ os2 n hlt] at c7'
                have c7 : wr.cell? ⟨g, n * 8 + 7, none⟩ = some (.int .i64 os2[n].off) := c7'
                have hbd := hbound n hlt
                have hps := placedTo_succ ((acc1.length : Int) - 8) os2 n hlt
                have HN := hide (hoy.placed hpl (by rw [hpl]; exact hlt) (os2[n].off + ((acc1.length : Int) - 8)))
                rw [placedTo_get _ os2 n hlt, ← hps] at HN
                have HT := hide (ht.set (p := ⟨g, n * 8 + 7, none⟩) (Or.inl rfl) (.int .i64 (os2[n].off + ((acc1.length : Int) - 8))))
                generalize os2[n].off = z at *
                clear c7' hps hpl hoy ht
                go_wp2
                go_roundw
                case rel => exact ⟨n + 1, by omega, by go_num, HN.out, HT.out⟩
                case measure => simp [intOf]; omega
              · have hkl : n = os2.length := by omega
                subst hkl
                rw [placedTo_all, ← behind_at acc1.length hl9] at hoy
                have hox := ((ho7.later hb8).later hb9).trod ht (fun j e1 e2 => by have := ho7.block_lt e1; have := ho8.block_lt e2; omega)
                have hoz := ho9.trod ht (fun j e1 e2 => by have := ho9.block_lt e1; have := ho8.block_lt e2; omega)
                have hsz := ht.size
                obtain ⟨v', w10, hr, hgr, ho10⟩ := ents_join wr w6.heap.size w7.heap.size _ _ os1 _ hox (by have := hb19.size; have := hb7.size; have := hb8.size; have := hb9.size; omega) hoy (by rw [List.length_map]; omega)
                have hoz2 : OwnEnts w10 w8.heap.size (.slice p9 os3.length c9) os3 := World.ownsRow.kept hoz hgr (by
                  rcases Option.eq_none_or_eq_some (Value.slice p9 os3.length c9).ownBlock with e | ⟨j, e⟩
                  · exact Or.inl e
                  · refine Or.inr fun e2 => ?_
                    rw [e] at e2
                    have := ho9.block_lt e
                    have := ho7.block_lt e2.symm
                    have := hb8.size
                    omega)
                rw [← Hjo.out] at ho10
                have hbF : Below w.heap.size w w10 := by
                  have h1 : Below w.heap.size w wr := hb19.trans (ht.below hb19.size (fun j hj e => by have := ho8.block_lt e; have := hb17.size; omega))
                  exact h1.grown hgr h1.size (fun j e => by have := ho7.block_lt e; have := hb16.size; omega)
                obtain ⟨q9, b9, d9, hq9, hz1, hz2, _, hz3, _⟩ := hoz2.at (by have := h.hL.pos; have := hbF.size; omega)
                obtain ⟨q10, b10, d10, rfl, hy1, hy2, _, hy3, _⟩ := ho10.at (by have := h.hL.pos; have := hbF.size; omega)
                injection hq9 with hq9 _ hd9
                subst hq9 hd9
                have HS := Hsame _ b9 c9 _ b10 d10 w10 hz1 hy1 hz2 hy2
                clear hox hoz hoy ht ho10 hoz2 hz1 hz2 hy1 hy2
                go_wp2_with (first
                  | (at_builtin; refine wpList_run_g rfl (run_append_exec _ _ _ _ rfl rfl rfl hr) ?_)
                  | (go_at_call 12; (with_reducible refine (HS.out).mono ?_); rintro e w11 ⟨rfl, hb11⟩; have hbG := hbF.trans (hb11.mono hbF.size))
                  | (go_at_call 9; (with_reducible refine ((hPs _ hbG).out).mono ?_); rintro e w12 ⟨rfl, hb12⟩; have hbH := hbG.trans (hb12.mono hbG.size)))
                go_ret
                exact ⟨rfl, hbH⟩
          · have hgt : (200 : Int) < (es.length : Int) + fs.length := by omega
            have hea := (entriesOk_of hok).2
            have heb := (entriesOk_of hok2).2
            clear hf hok hf2 hok2
            go_enter Tryz.func5, Tryz.ntmps5
            go_wp2_with (first
              | (go_at_call 7; (with_reducible refine (hF.out).mono ?_); rintro e w1 ⟨rfl, hb1⟩; clear hF)
              | (go_at_call 7; (with_reducible refine ((hF2 _ hb1).out).mono ?_); rintro e w2 ⟨rfl, hb2⟩; have hb12 := hb1.trans (hb2.mono hb1.size))
              | (go_at_call 8; (with_reducible refine ((hO _ hb12).out).mono ?_); rintro e w3 ⟨rfl, hb3⟩; have hb13 := hb12.trans (hb3.mono hb12.size); clear hO)
              | (go_at_call 8; (with_reducible refine ((hO2 _ hb13).out).mono ?_); rintro e w5 ⟨rfl, hb5⟩; have hb15 := hb13.trans (hb5.mono hb13.size))
              | (go_at_call 9; (with_reducible refine ((hPs _ hb15).out).mono ?_); rintro e w4 ⟨rfl, hb4⟩))
            go_ret
            exact ⟨rfl, hb15.trans (hb4.mono hb15.size)⟩
end Go.Proofs.YtgdghaijjhbegaaGreatDoor
