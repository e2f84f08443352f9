/- The walk of parseArchive over good entries. -/
import Derived.Test.YtgdghaijjhbegaaDoorParA
import Derived.Test.YtgdghaijjhbegaaDoorRegA
import Derived.Test.YtgdghaijjhbegaaDoorGetA
import Derived.Deep.DeepCutAuto
import Derived.Deep.CutBlock
import Derived.Deep.RegionHeldLaw
import Derived.Stop.LaidErr
namespace Go.Proofs.YtgdghaijjhbegaaDoor
open Go.RowKit
set_option maxRecDepth 100000

/-- What stands behind the good entries: too little for a header, a header that does not end as it should, or one whose size is no number. -/
def tailBad (t : List UInt8) : Prop :=
  (0 < t.length ∧ t.length < 60) ∨ (60 ≤ t.length ∧ cut (t.take 60) 58 60 ≠ [96, 10]) ∨
    (60 ≤ t.length ∧ cut (t.take 60) 58 60 = [96, 10] ∧ ∃ c l, rtrim 32 (cut (t.take 60) 48 58) = c :: l ∧ ¬ (48 ≤ c.toNat ∧ c.toNat ≤ 57) ∧ c.toNat ≠ 43 ∧ c.toNat ≠ 45)

/-- What parseArchive leaves. -/
def ParEnd (tail : List UInt8) (vb : Bool) (es : List Ent) (R A V D : Nat) (w : World) (x : Ending) (w' : World) : Prop :=
  ((tail = [] ∧ x = .returned .nilIface ∧ w'.cell? ⟨R, 0, none⟩ = some (.pointer (some ⟨A, 0, none⟩)) ∧ PArc w' A V es.length (recs vb es es.length)) ∨ (tail ≠ [] ∧ ∃ v, x = .returned (.iface 133 v))) ∧ Below D w w'

theorem ParEnd.ok {tail : List UInt8} {vb : Bool} {es : List Ent} {R A V D : Nat} {w w' : World} (h : tail = []) (hc : w'.cell? ⟨R, 0, none⟩ = some (.pointer (some ⟨A, 0, none⟩))) (hp : PArc w' A V es.length (recs vb es es.length)) (hb : Below D w w') : ParEnd tail vb es R A V D w (.returned .nilIface) w' := ⟨Or.inl ⟨h, rfl, hc, hp⟩, hb⟩
theorem ParEnd.bad {tail : List UInt8} {vb : Bool} {es : List Ent} {R A V D : Nat} {w w' : World} (h : tail ≠ []) (v : Value) (hb : Below D w w') : ParEnd tail vb es R A V D w (.returned (.iface 133 v)) w' := ⟨Or.inr ⟨h, v, rfl⟩, hb⟩

set_option maxHeartbeats 16000000 in
theorem parse_any (R A V U B F D cap : Nat) (vb : Bool) (es : List Ent) (data tail : List UInt8) (tp : List Value) (w : World) (h : OAt w R A V U B F D cap data 0 .nilIface tp) (hP : PArc w A V 0 []) (hok : es.all Ent.okB = true) (hdata : data = archB es ++ tail) (hes : es.length ≤ 1000000)
    (htail : tail = [] ∨ tailBad tail) (hL : PLaid w D) :
    Calls Tryd.prog 52 #[.pointer (some ⟨R, 0, none⟩), .bool vb] w (ParEnd tail vb es R A V D w) := by
  have hlen : 8 ≤ data.length := by rw [hdata]; simp [archB, magicB]
  have hR8 := hide (readFull_ok R A V U B F D cap 8 data 0 tp w h (by omega) (by omega))
  have hsl8 := fun W => arr256 W R 8 (by omega)
  have hfr := h.fr
  have hra := h.ra
  have hau := h.au
  have hbv := h.bv
  obtain ⟨r0, e0, hb0⟩ := h.b
  have hub := hb0.ub
  have hdf := hb0.f.df
  have hll := hb0.f.ll
  have Hdata := hide hdata
  have Hes := hide hes
  have HL := hide hL
  have Htail := hide htail
  clear hdata hb0 hes hL htail
  go_enter Tryd.func52, Tryd.ntmps52
  go_wp2_with (go_at_call 70; (with_reducible refine (hR8.out).mono ?_); rintro x w1 ⟨rfl, h1, t1⟩)
  go_loopg [] es.length (fun n wr => ∃ (k : Nat) (tp' : List Value), k + n = es.length ∧ OAt wr R A V U B F D cap data (posAt es k) .nilIface tp' ∧ PArc wr A V k (recs vb es k) ∧ Below D w wr)
  case atStart =>
    refine ⟨0, _, by omega, h1, hP.trod t1 (fun j e => Or.inl (by omega)), t1.below (by have := h.row; have := (Array.getElem?_eq_some_iff.1 this).1; omega) (fun j hj e => by omega)⟩
  case round =>
    obtain ⟨k, tp', hkn, ho, hp, hbl⟩ := hrel
    clear hR8 hsl8 h1 t1
    by_cases hlt : k < es.length
    · obtain ⟨d0, d1, d2, d3, d4⟩ := rrow_cell ho.row
      have hle := posAt_le (tail := tail) hok hlt
      rw [← Hdata.out] at hle
      have hsucc := posAt_succ hok hlt
      have hhd := header_at (tail := tail) hok hlt
      rw [← Hdata.out] at hhd
      have heok := ok_at hok hlt
      have hrs : recs vb es (k + 1) = recs vb es k ++ acells vb es[k] (posAt es k + 60) := recs_succ vb es k hlt
      have h8at : 8 ≤ es[k].data.length → (data.drop (posAt es k + 60)).take 8 = es[k].data.take 8 := fun h => by rw [Hdata.out]; exact eight_at (tail := tail) hok hlt h
      have Hrs := hide hrs
      have H8 := hide h8at
      clear hrs h8at
      generalize es[k] = e at *
      generalize posAt es k = pos at *
      have q1 : (pos : Int) < (data.length : Int) := by omega
      have hR60 := hide (readFull_ok R A V U B F D cap 60 data pos tp' wr.drew (ho.quiet (Trod.drew _)) (by omega) (by omega))
      have hsl60 := fun W => arr256 W R 60 (by omega)
      rw [hhd] at hR60
      have Hsucc := hide hsucc
      have Hkn := hide hkn
      clear hhd hsucc hkn
      go_wp2
      go_region_held3 (fun W => W.cell? ⟨R, 3, none⟩ = some (.int .i64 pos) ∧ W.cell? ⟨R, 4, none⟩ = some (.int .i64 data.length)) ((first | exact ⟨d3, d4⟩ | assumption | (simp [*]; done))) (first | fail)
      go_wp2_with (go_at_call 70; (with_reducible refine (hR60.out).mono ?_); rintro x w2 ⟨rfl, h2, t2⟩)
      obtain ⟨f0, f1, f2, f3, f4, f5, f6⟩ := fields_at heok
      obtain ⟨b0, b1, b2, b3, b4, b5⟩ := okB_bounds heok
      have hhl := Ent.header_length heok
      have hb3 : Below w2.heap.size w2 (w2.alloc (.cells #[.slice (some ⟨R, 5, none⟩) 60 256] 41)) := (Below.refl _ _).alloc (Nat.le_refl _) _
      have hT := heap_alloc_new w2 (.cells #[.slice (some ⟨R, 5, none⟩) 60 256] 41)
      have t02 : Trod (fun k => k = R ∨ k = U ∨ k = F ∨ k = B) wr (w2.alloc (.cells #[.slice (some ⟨R, 5, none⟩) 60 256] 41)) := ((Trod.drew wr).trans t2).trans (Trod.of_below hb3)
      have h3 := h2.quiet (Trod.of_below hb3)
      have cT : (w2.alloc (.cells #[.slice (some ⟨R, 5, none⟩) 60 256] 41)).cell? ⟨w2.heap.size, 0, none⟩ = some (.slice (some ⟨R, 5, none⟩) 60 256) := by rw [cell_of_heap _ _ _ _ _ _ hT]; rfl
      have zT := frozen_of_heap _ w2.heap.size 0 _ _ hT
      have hT2 : wr.heap.size ≤ w2.heap.size := t2.size
      have hTl : w2.heap.size < (w2.alloc (.cells #[.slice (some ⟨R, 5, none⟩) 60 256] 41)).heap.size := by simp
      generalize w2.alloc (.cells #[.slice (some ⟨R, 5, none⟩) 60 256] 41) = W3 at *
      generalize w2.heap.size = T at *
      clear hb3 hT h2 t2 hR60
      have by3 := rrow_bytes h3.row
      have hEq : ∀ W b, BytesAt W R 63 (cut e.header 58 60) → BytesAt W b 0 endB → Hid (Calls Tryd.prog 51 #[.slice (some ⟨R, 63, none⟩) 2 198, .slice (some ⟨b, 0, none⟩) 2 2] W fun x w' => x = .returned (.bool true) ∧ W = w') := fun W b y1 y2 => by
        rw [f6] at y1
        exact Equal_any R 63 198 b 0 2 [96, 10] endB W y1 y2
      have by58 := cut_at by3 58 60
      go_region_held3 (fun W => W.cell? ⟨T, 0, none⟩ = some (.slice (some ⟨R, 5, none⟩) 60 256)) ((first | assumption | (simp [*]; done)))
        (first
          | (go_at_call 71; (with_reducible refine (archiveMagic_any _).mono ?_); rintro x w4 ⟨rfl, y4, hb4⟩; have t34 : Trod (fun _ => False) W3 w4 := (Trod.drew W3).trans (Trod.of_below hb4); have kT4 := t34.cell cT id; have by4 := t34.bytes by58 id; have y4' : BytesAt w4 W3.heap.size 0 endB := y4)
          | (go_at_call 51; (with_reducible refine ((hEq _ _ by4 y4').out).mono ?_); rintro x w5 ⟨rfl, rfl⟩))
      clear by58 hEq
      have h4 := h3.quiet t34
      have by40 := t34.bytes by3 id
      have zT4 := t34.frozen hTl zT id
      have hTl4 := Nat.lt_of_lt_of_le hTl t34.size
      have t04 : Trod (fun k => k = R ∨ k = U ∨ k = F ∨ k = B) wr w4 := t02.trans (t34.weaken fun k e => e.elim)
      clear h3 by3 zT t34 cT t02 by4 y4 y4' hb4
      have hTS : Hid (Calls Tryd.prog 40 #[.slice (some ⟨R, 5, none⟩) 16 256] w4 fun x w' => x = .returned (.string ⟨e.name.toArray⟩) ∧ w4 = w') := by
        have := trimSpace_any R 5 256 (cut e.header 0 16) w4 (cut_at by40 0 16) (by rw [cut_length _ _ _ (by omega)]; omega) (by rw [cut_length _ _ _ (by omega)]; omega)
        rw [f0, cut_length _ _ _ (by omega)] at this
        exact this
      have hG := fun W hg a b base bits v hab hb hP => get_st w4 W R T a b base bits v e.header hg by40 hhl hab hb kT4 hP
      have hG1 : ∀ W, GSt w4 w4.heap.size W → Hid (Calls Tryd.prog 72 #[.int .i64 48, .int .i64 58, .int .i64 10, .int .i64 64, .pointer (some ⟨w4.heap.size, 0, none⟩), .pointer (some ⟨T, 0, none⟩)] W fun x w' => x = .returned (.int .i64 e.data.length) ∧ GSt w4 w4.heap.size w') :=
        fun W hg => hG W hg 48 58 10 64 e.data.length (by omega) (by omega) (fun W => by rw [f1]; exact ParseInt64_any _ W (by omega))
      have hG2 : ∀ W, GSt w4 w4.heap.size W → Hid (Calls Tryd.prog 72 #[.int .i64 16, .int .i64 28, .int .i64 10, .int .i64 64, .pointer (some ⟨w4.heap.size, 0, none⟩), .pointer (some ⟨T, 0, none⟩)] W fun x w' => x = .returned (.int .i64 e.time) ∧ GSt w4 w4.heap.size w') :=
        fun W hg => by have := hG W hg 16 28 10 64 e.time.toNat (by omega) (by omega) (fun W => by rw [f2]; exact ParseInt64_any _ W (by omega)); rw [Int.toNat_of_nonneg b1.1] at this; exact this
      have hG3 : ∀ W, GSt w4 w4.heap.size W → Hid (Calls Tryd.prog 72 #[.int .i64 28, .int .i64 34, .int .i64 10, .int .i64 32, .pointer (some ⟨w4.heap.size, 0, none⟩), .pointer (some ⟨T, 0, none⟩)] W fun x w' => x = .returned (.int .i64 e.user) ∧ GSt w4 w4.heap.size w') :=
        fun W hg => by have := hG W hg 28 34 10 32 e.user.toNat (by omega) (by omega) (fun W => by rw [f3]; exact ParseInt32_any _ W (by omega)); rw [Int.toNat_of_nonneg b2.1] at this; exact this
      have hG4 : ∀ W, GSt w4 w4.heap.size W → Hid (Calls Tryd.prog 72 #[.int .i64 34, .int .i64 40, .int .i64 10, .int .i64 32, .pointer (some ⟨w4.heap.size, 0, none⟩), .pointer (some ⟨T, 0, none⟩)] W fun x w' => x = .returned (.int .i64 e.group) ∧ GSt w4 w4.heap.size w') :=
        fun W hg => by have := hG W hg 34 40 10 32 e.group.toNat (by omega) (by omega) (fun W => by rw [f4]; exact ParseInt32_any _ W (by omega)); rw [Int.toNat_of_nonneg b3.1] at this; exact this
      have hG5 : ∀ W, GSt w4 w4.heap.size W → Hid (Calls Tryd.prog 72 #[.int .i64 40, .int .i64 48, .int .i64 8, .int .i64 32, .pointer (some ⟨w4.heap.size, 0, none⟩), .pointer (some ⟨T, 0, none⟩)] W fun x w' => x = .returned (.int .i64 e.mode) ∧ GSt w4 w4.heap.size w') :=
        fun W hg => by have := hG W hg 40 48 8 32 e.mode.toNat (by omega) (by omega) (fun W => by rw [f5]; exact ParseInt8_any _ W (by omega)); rw [Int.toNat_of_nonneg b4.1] at this; exact this
      have HG1 := hide hG1
      have HG2 := hide hG2
      have HG3 := hide hG3
      have HG4 := hide hG4
      have HG5 := hide hG5
      have gs := GSt.start w4 50
      have hw32 : IntKind.u32.wrap e.mode = e.mode := by show e.mode % 4294967296 = e.mode; omega
      clear hG hG1 hG2 hG3 hG4 hG5 f0 f1 f2 f3 f4 f5 f6
      go_upto_if 66 with (first
        | (go_at_call 40; (with_reducible refine (hTS.out).mono ?_); rintro x w5 ⟨rfl, rfl⟩)
        | (go_at_call 72; (with_reducible refine ((HG1.out _ gs).out).mono ?_); rintro x w6 ⟨rfl, gs6⟩))
      go_cut [11, 12, 13, 14] (fun s11 s12 s13 s14 wx => s11 = .int .i64 (if vb then e.time else 0) ∧ s12 = .int .i64 (if vb then e.user else 0) ∧ s13 = .int .i64 (if vb then e.group else 0) ∧ s14 = .int .u32 (if vb then e.mode else 0) ∧ GSt w4 w4.heap.size wx)
      case first =>
        as_aux_lemma =>
          cases vb
          · go_wp2
            go_meet
            exact ⟨rfl, rfl, rfl, rfl, gs6⟩
          · go_wp2_with (first
              | (go_at_call 72; (with_reducible refine ((HG2.out _ (by assumption)).out).mono ?_); rintro x w7 ⟨rfl, gs7⟩)
              | (go_at_call 72; (with_reducible refine ((HG3.out _ (by assumption)).out).mono ?_); rintro x w8 ⟨rfl, gs8⟩)
              | (go_at_call 72; (with_reducible refine ((HG4.out _ (by assumption)).out).mono ?_); rintro x w9 ⟨rfl, gs9⟩)
              | (go_at_call 72; (with_reducible refine ((HG5.out _ (by assumption)).out).mono ?_); rintro x w10 ⟨rfl, gs10⟩))
            go_meet
            exact ⟨rfl, rfl, rfl, rfl, gs10⟩
      case rest =>
        obtain ⟨rfl, rfl, rfl, rfl, gsc⟩ := hcut
        have HAC := hide (show ∀ kd, e.kind = kd → acells vb e (pos + 60) = [.string ⟨e.name.toArray⟩, .int .i64 kd, .int .i64 (if vb = true then e.time else 0), .int .i64 (if vb = true then e.user else 0), .int .i64 (if vb = true then e.group else 0), .int .u32 (if vb = true then e.mode else 0), .int .i64 ((pos : Int) + 60), .int .i64 e.data.length, .pointer none] from fun kd h => by simp [acells, h])
        generalize (if vb = true then e.time else 0) = tm at *
        generalize (if vb = true then e.user else 0) = us at *
        generalize (if vb = true then e.group else 0) = gr at *
        generalize (if vb = true then e.mode else 0) = md at *
        have hVT : V < T := Nat.lt_of_lt_of_le ho.lt hT2
        have t4c := gsc.t
        have hc := h4.quiet t4c
        have kTc := t4c.cell kT4 id
        have zTc := t4c.frozen hTl4 zT4 id
        have kec := gsc.e
        have hwrc : wr.heap.size ≤ wc.heap.size := Nat.le_trans t04.size t4c.size
        have t0c : Trod (fun k => k = R ∨ k = U ∨ k = F ∨ k = B) wr (wc.setCell ⟨T, 0, none⟩ (.slice (some ⟨R, 65, none⟩) 0 196)) := (t04.trans (t4c.weaken fun k e => e.elim)).put T 0 (Or.inr hT2) _
        have hd := hc.above ((Trod.refl (S := fun k => k = T) wc).put T 0 (Or.inl rfl) (.slice (some ⟨R, 65, none⟩) 0 196)) (fun k e => by omega)
        have hpd := hp.trod t0c (fun j e => Or.inl (by omega))
        have hand : bits BinOp.and IntKind.i64 (e.data.length : Int) 1 = ((e.data.length % 2 : Nat) : Int) := and1' e.data.length (by omega)
        have hp1 : ((e.data.length % 2 : Nat) : Int) ≤ 1 := by omega
        have hp0 : 0 ≤ ((e.data.length % 2 : Nat) : Int) := by omega
        have hdl : (e.data.length : Int) ≤ 1048576 := by omega
        have hk6 : k ≤ 1000000 := by have := Hes.out; omega
        have HK := hide (kinds_at heok)
        clear gsc HG1 HG2 HG3 HG4 HG5 hTS gs hc t4c h4 by40 kT4 zT4 t04
        generalize hpq : ((e.data.length % 2 : Nat) : Int) = pp at *
        have HPP := hide hpq
        clear hpq
        go_upto_block 2 with fail
        generalize wc.setCell ⟨T, 0, none⟩ (.slice (some ⟨R, 65, none⟩) 0 196) = wd at *
        have hDd : D ≤ wd.heap.size := by have h : R < wd.heap.size := World.block_lt_of_cell? wd _ (rrow_cell hd.row).1; omega
        obtain ⟨d0', d1', d2', d3', d4'⟩ := rrow_cell hd.row
        rw [show ((pos + 60 : Nat) : Int) = (pos : Int) + 60 by omega] at d3'
        have hle' : pos + 60 + e.data.length ≤ data.length := by omega
        go_cut [] (fun wx => ∃ tp2, OAt wx R A V U B F D cap data (pos + 60 + e.data.length) .nilIface tp2 ∧ PArc wx A V (k + 1) (recs vb es k ++ acells vb e (pos + 60)) ∧ Below D wd wx)
        case first =>
          obtain ⟨p6, c6, k61, ho6⟩ := hpd.own
          rcases HK.out with ⟨hn, hkd⟩ | ⟨hn, hs, hde, hkd⟩ | ⟨hn, hs, h8, hgo, hkd⟩
          · as_aux_lemma =>
              have hn' : e.name = [95, 95, 46, 80, 75, 71, 68, 69, 70] := hn
              have HV := hide (HAC.out 0 hkd)
              clear HK hn
              go_upto_region 33 with fail
              clear hn'
              obtain ⟨p7, c7, w7, happ, k71, z71, k70, k73, hp7, ho7, t7⟩ := append_round hd hpd k61 ho6 hk6 [.string ⟨e.name.toArray⟩, .int .i64 0, .int .i64 tm, .int .i64 us, .int .i64 gr, .int .u32 md, .int .i64 ((pos : Int) + 60), .int .i64 e.data.length, .pointer none] rfl (by simp [Value.oneCell'])
              rw [show ((pos + 60 : Nat) : Int) = (pos : Int) + 60 by omega] at k73
              refine region33_any _ (fun _ _ _ _ _ h => h) _ _ w7 R A k c6 c7 p6 p7 ⟨e.name.toArray⟩ _ _ _ _ ((pos : Int) + 60) (e.data.length : Int) rfl rfl rfl rfl rfl rfl rfl rfl d0' d3' k61 k70 k73 k71 z71 happ ?_
              intro x99 x100 x101 x102 x103 x104 x105 x106 x107 x108 x109 x110 x111 x112 x113 x114 x115 x116 x117 x118 x119 x120 x121 x122 x123 x124 x125
              simp only [putL, Act.put, List.setIfInBounds_toArray, List.set_cons_zero, List.set_cons_succ]
              clear happ k71 z71 k70 k73
              generalize w7.setCell ⟨A, 1, none⟩ (.slice p7 (k + 1) c7) = W8 at *
              have HSK := hide (skip_ok R A V U B F D cap e.data.length data (pos + 60) _ W8 ho7 hle')
              go_wp2_with (go_at_call 74; (with_reducible refine (HSK.out).mono ?_); rintro x w9 ⟨rfl, ⟨tp9, h9⟩, t9⟩)
              go_meet
              rw [HV.out]
              exact ⟨tp9, h9, hp7.trod t9 (fun j e => Or.inl (by omega)), (t7.below hDd (fun j hj e => by omega)).trans (t9.below (Nat.le_trans hDd t7.size) (fun j hj e => by omega))⟩
          · have hs' : e.name = [112, 114, 101, 102, 101, 114, 108, 105, 110, 107, 101, 120, 116] ∨ e.name = [100, 121, 110, 105, 109, 112, 111, 114, 116, 102, 97, 105, 108] := by simpa [sentinelB] using hs
            rcases hs' with hn3 | hn3
            · as_aux_lemma =>
                have hn' : e.name = [112, 114, 101, 102, 101, 114, 108, 105, 110, 107, 101, 120, 116] := hn3
                have hl0 : ((e.data.length : Int) == 0) = true := by rw [hde]; rfl
                have hl1 : decide ((e.data.length : Int) = 0) = true := by rw [hde]; rfl
                have Hde := hide hde
                clear hde
                have HV := hide (HAC.out 3 hkd)
                clear HK hn hs hn3
                go_upto_region 36 with fail
                clear hn'
                obtain ⟨p7, c7, w7, happ, k71, z71, k70, k73, hp7, ho7, t7⟩ := append_round hd hpd k61 ho6 hk6 [.string ⟨e.name.toArray⟩, .int .i64 3, .int .i64 tm, .int .i64 us, .int .i64 gr, .int .u32 md, .int .i64 ((pos : Int) + 60), .int .i64 e.data.length, .pointer none] rfl (by simp [Value.oneCell'])
                rw [show ((pos + 60 : Nat) : Int) = (pos : Int) + 60 by omega] at k73
                refine region36_any _ (fun _ _ _ _ _ h => h) _ _ w7 R A k c6 c7 p6 p7 ⟨e.name.toArray⟩ _ _ _ _ ((pos : Int) + 60) (e.data.length : Int) rfl rfl rfl rfl rfl rfl rfl rfl d0' d3' k61 k70 k73 k71 z71 happ ?_
                intro x131 x132 x133 x134 x135 x136 x137 x138 x139 x140 x141 x142 x143 x144 x145 x146 x147 x148 x149 x150 x151 x152 x153 x154 x155 x156 x157
                simp only [putL, Act.put, List.setIfInBounds_toArray, List.set_cons_zero, List.set_cons_succ]
                clear happ k71 z71 k70 k73
                generalize w7.setCell ⟨A, 1, none⟩ (.slice p7 (k + 1) c7) = W8 at *
                go_wp2
                go_meet
                rw [HV.out, Hde.out]
                exact ⟨_, ho7, by rw [Hde.out] at hp7; exact hp7, t7.below hDd (fun j hj e => by omega)⟩
            · as_aux_lemma =>
                have hn' : e.name = [100, 121, 110, 105, 109, 112, 111, 114, 116, 102, 97, 105, 108] := hn3
                have hl0 : ((e.data.length : Int) == 0) = true := by rw [hde]; rfl
                have hl1 : decide ((e.data.length : Int) = 0) = true := by rw [hde]; rfl
                have Hde := hide hde
                clear hde
                have HV := hide (HAC.out 3 hkd)
                clear HK hn hs hn3
                go_upto_region 36 with fail
                clear hn'
                obtain ⟨p7, c7, w7, happ, k71, z71, k70, k73, hp7, ho7, t7⟩ := append_round hd hpd k61 ho6 hk6 [.string ⟨e.name.toArray⟩, .int .i64 3, .int .i64 tm, .int .i64 us, .int .i64 gr, .int .u32 md, .int .i64 ((pos : Int) + 60), .int .i64 e.data.length, .pointer none] rfl (by simp [Value.oneCell'])
                rw [show ((pos + 60 : Nat) : Int) = (pos : Int) + 60 by omega] at k73
                refine region36_any _ (fun _ _ _ _ _ h => h) _ _ w7 R A k c6 c7 p6 p7 ⟨e.name.toArray⟩ _ _ _ _ ((pos : Int) + 60) (e.data.length : Int) rfl rfl rfl rfl rfl rfl rfl rfl d0' d3' k61 k70 k73 k71 z71 happ ?_
                intro x131 x132 x133 x134 x135 x136 x137 x138 x139 x140 x141 x142 x143 x144 x145 x146 x147 x148 x149 x150 x151 x152 x153 x154 x155 x156 x157
                simp only [putL, Act.put, List.setIfInBounds_toArray, List.set_cons_zero, List.set_cons_succ]
                clear happ k71 z71 k70 k73
                generalize w7.setCell ⟨A, 1, none⟩ (.slice p7 (k + 1) c7) = W8 at *
                go_wp2
                go_meet
                rw [HV.out, Hde.out]
                exact ⟨_, ho7, by rw [Hde.out] at hp7; exact hp7, t7.below hDd (fun j hj e => by omega)⟩
          · clear k61 ho6
            have HV := hide (HAC.out 2 hkd)
            have hn' : ¬ (e.name = [95, 95, 46, 80, 75, 71, 68, 69, 70]) := hn
            have hn'' : (e.name == [95, 95, 46, 80, 75, 71, 68, 69, 70]) = false := beq_eq_false_iff_ne.2 hn'
            have hl0 : ((e.data.length : Int) == 0) = false := beq_eq_false_iff_ne.2 (by omega)
            have hl1 : decide ((e.data.length : Int) = 0) = false := decide_eq_false (by omega)
            have hxl : ((data.drop (pos + 60)).take 8).length = 8 := by rw [List.length_take, List.length_drop]; omega
            have hEq : ∀ W r c b, BytesAt W B r ((data.drop (pos + 60)).take 8) → BytesAt W b 0 goObjM → Hid (Calls Tryd.prog 51 #[.slice (some ⟨B, r, none⟩) 8 c, .slice (some ⟨b, 0, none⟩) 8 8] W fun x w' => x = .returned (.bool false) ∧ W = w') := fun W r c b y1 y2 => by
              have := Equal_any B r c b 0 8 _ goObjM W y1 y2
              rw [hxl, show ((data.drop (pos + 60)).take 8 == goObjM) = false by rw [H8.out h8]; exact hgo] at this
              exact this
            have HEq := hide hEq
            have HP := hide (peek_ok R A V U B F D cap data (pos + 60) _ wd hd (by omega))
            clear HK hn hs hxl hEq hgo
            go_upto_block 5 with fail
            go_cut [] (fun wx => wd = wx)
            case first =>
              as_aux_lemma =>
                clear HP HEq
                go_wp2
                all_goals (go_meet; rfl)
            case rest =>
              as_aux_lemma =>
                obtain rfl := hcut
                clear hn' hn'' hl0 hl1
                go_wp2_with (first
                  | (go_at_call 50; (with_reducible refine (HP.out).mono ?_); rintro x w2 ⟨r', rfl, h2, by2, t2⟩)
                  | (go_at_call 53; (with_reducible refine (goobjHeader_any _).mono ?_); rintro x w3 ⟨rfl, by3, hb3⟩; have t23 : Trod (fun _ => False) w2 w3 := Trod.of_below hb3; have h3 := h2.quiet t23; have by23 := t23.bytes by2 id)
                  | (go_at_call 51; (with_reducible refine ((HEq.out _ _ _ _ by23 by3).out).mono ?_); rintro x w4 ⟨rfl, rfl⟩; have HSK := hide (skip_ok R A V U B F D cap e.data.length data (pos + 60) _ w3 h3 hle'))
                  | (go_at_call 74; (with_reducible refine (HSK.out).mono ?_); rintro x w5 ⟨rfl, ⟨tp5, h5⟩, t5⟩))
                have t05 : Trod (fun k => k = R ∨ k = U ∨ k = F ∨ k = B) wd w5 := ((t2.weaken fun k e => Or.inr e).trans (t23.weaken fun k e => e.elim)).trans t5
                have hp5 := hpd.trod t05 (fun j e => Or.inl (by omega))
                obtain ⟨p6, c6, k61, ho6⟩ := hp5.own
                obtain ⟨e0', e1', e2', e3', e4'⟩ := rrow_cell h5.row
                obtain ⟨p7, c7, w7, happ, k71, z71, k70, k73, hp7, ho7, t7⟩ := append_round h5 hp5 k61 ho6 hk6 [.string ⟨e.name.toArray⟩, .int .i64 2, .int .i64 tm, .int .i64 us, .int .i64 gr, .int .u32 md, .int .i64 ((pos : Int) + 60), .int .i64 e.data.length, .pointer none] rfl (by simp [Value.oneCell'])
                clear by2 by3 hb3 by23 h2 h3 HSK HEq HP
                refine region51_any _ (fun _ _ _ _ _ h => h) _ _ w7 R A k c6 c7 p6 p7 ⟨e.name.toArray⟩ _ _ _ _ ((pos : Int) + 60) (e.data.length : Int) rfl rfl rfl rfl rfl rfl rfl rfl rfl rfl rfl e0' k61 k70 k71 z71 happ ?_
                intro x185 x186 x187 x188 x189 x190 x191 x192 x193 x194 x195 x196 x197 x198 x199 x200 x201 x202 x203 x204 x205 x206 x207 x208 x209 x210
                simp only [putL, Act.put, List.setIfInBounds_toArray, List.set_cons_zero, List.set_cons_succ]
                clear happ k71 z71 k70 k73
                generalize w7.setCell ⟨A, 1, none⟩ (.slice p7 (k + 1) c7) = W8 at *
                go_wp2
                go_meet
                rw [HV.out]
                exact ⟨_, ho7, hp7, (t05.below hDd (fun j hj e => by omega)).trans (t7.below (Nat.le_trans hDd t05.size) (fun j hj e => by omega))⟩
        case rest =>
          as_aux_lemma =>
            obtain ⟨tp2, h9, hp9, hb9⟩ := hcut
            have hbw : Below D w wc := (hbl.trans (t0c.below (by have := ho.lt; omega) (fun j hj e => by omega))).trans hb9
            rw [← Hrs.out] at hp9
            clear hd hpd t0c hb9 d0' d1' d2' d3' d4' HK HAC
            rcases (show pp = 0 ∨ pp = 1 by omega) with rfl | rfl
            · go_wp2
              go_roundg (gk - 1)
              case measure => have := Hkn.out; omega
              case rel => exact ⟨k + 1, tp2, by have := Hkn.out; omega, by rw [Hsucc.out, show e.data.length % 2 = 0 by have := HPP.out; omega]; exact h9, hp9, hbw⟩
            · have HSK := hide (show Calls Tryd.prog 74 #[.pointer (some ⟨R, 0, none⟩), .int .i64 1] wc _ from skip_ok R A V U B F D cap 1 data (pos + 60 + e.data.length) tp2 wc h9 (by have := HPP.out; omega))
              go_wp2_with (go_at_call 74; (with_reducible refine (HSK.out).mono ?_); rintro x w10 ⟨rfl, ⟨tp10, h10⟩, t10⟩)
              go_roundg (gk - 1)
              case measure => have := Hkn.out; omega
              case rel => exact ⟨k + 1, tp10, by have := Hkn.out; omega, by rw [Hsucc.out, show e.data.length % 2 = 1 by have := HPP.out; omega]; exact h10, hp9.trod t10 (fun j e => Or.inl (by omega)), hbw.trans (t10.below (by have h : R < wc.heap.size := World.block_lt_of_cell? wc _ (rrow_cell h9.row).1; omega) (fun j hj e => by omega))⟩
    · have hkl : k = es.length := by omega
      subst hkl
      obtain ⟨d0, d1, d2, d3, d4⟩ := rrow_cell ho.row
      have hta := tail_at es tail
      rw [← Hdata.out] at hta
      have hpe := posAt_end es
      have hdl : data.length = (archB es).length + tail.length := by rw [Hdata.out, List.length_append]
      rw [← hpe] at hdl
      have HP := hide hp
      have Hbl := hide hbl
      clear hp hbl
      have hD : D ≤ wr.heap.size := by have := ho.lt; omega
      obtain ⟨r1, e1, hb1⟩ := ho.b
      have hdf1 := hb1.f.df
      clear hb1
      generalize hpos : posAt es es.length = pos at *
      clear hpos hpe
      rcases Htail.out with h0 | h1 | h2 | h3
      · as_aux_lemma =>
          have hl : data.length = pos := by rw [hdl, h0]; simp
          have q1 : ¬ ((pos : Int) < (data.length : Int)) := by omega
          have q2 : ¬ (pos < data.length) := by omega
          clear hdl hl hta
          go_wp2
          go_region_held3 (fun W => W.cell? ⟨R, 3, none⟩ = some (.int .i64 pos) ∧ W.cell? ⟨R, 4, none⟩ = some (.int .i64 data.length)) ((first | exact ⟨d3, d4⟩ | assumption | (simp [*]; done))) (first | fail)
          go_wp2
          go_ret
          exact ParEnd.ok h0 d0 (HP.out.trod (S := fun _ => False) (Trod.drew _) (fun j e => e.elim)) (Hbl.out.trans ((Trod.refl (S := fun _ => False) wr).trans (Trod.drew _) |>.below hD (fun j hj e => e)))
      · as_aux_lemma =>
          have hne : tail ≠ [] := by intro e; rw [e] at h1; simp at h1
          have q1 : (pos : Int) < (data.length : Int) := by omega
          have bD : Below D w wr.drew := Hbl.out.trans ((Trod.drew (S := fun _ => False) wr).below hD (fun j hj e => e))
          have hR60 := hide (readFull_past R A V U B F D cap 60 D data pos tp' wr.drew (ho.quiet (Trod.drew _)) (by omega) (by omega) (by omega) (HL.out.eof.below bD) (HL.out.une.below bD))
          have hsl60 := fun W => arr256 W R 60 (by omega)
          clear hdl hta h1
          go_wp2
          go_region_held3 (fun W => W.cell? ⟨R, 3, none⟩ = some (.int .i64 pos) ∧ W.cell? ⟨R, 4, none⟩ = some (.int .i64 data.length)) ((first | exact ⟨d3, d4⟩ | assumption | (simp [*]; done))) (first | fail)
          go_wp2_with (go_at_call 70; (with_reducible refine (hR60.out).mono ?_); rintro x w2 ⟨⟨b, rfl⟩, t2⟩)
          go_ret
          exact ParEnd.bad hne _ (bD.trans (t2.below hD (fun j hj e => by omega)))
      · as_aux_lemma =>
          obtain ⟨hlt60, hcut2⟩ := h2
          have hne : tail ≠ [] := by intro e; rw [e] at hlt60; simp at hlt60
          have hl60 : (tail.take 60).length = 60 := by rw [List.length_take]; omega
          have q1 : (pos : Int) < (data.length : Int) := by omega
          have hR60 := hide (readFull_ok R A V U B F D cap 60 data pos tp' wr.drew (ho.quiet (Trod.drew _)) (by omega) (by omega))
          rw [hta] at hR60
          have hsl60 := fun W => arr256 W R 60 (by omega)
          generalize tail.take 60 = hdr at *
          have Hne := hide hne
          clear hdl hta hlt60 hne
          go_wp2
          go_region_held3 (fun W => W.cell? ⟨R, 3, none⟩ = some (.int .i64 pos) ∧ W.cell? ⟨R, 4, none⟩ = some (.int .i64 data.length)) ((first | exact ⟨d3, d4⟩ | assumption | (simp [*]; done))) (first | fail)
          go_wp2_with (go_at_call 70; (with_reducible refine (hR60.out).mono ?_); rintro x w2 ⟨rfl, h2, t2⟩)
          have hb3 : Below w2.heap.size w2 (w2.alloc (.cells #[.slice (some ⟨R, 5, none⟩) 60 256] 41)) := (Below.refl _ _).alloc (Nat.le_refl _) _
          have hT := heap_alloc_new w2 (.cells #[.slice (some ⟨R, 5, none⟩) 60 256] 41)
          have t02 : Trod (fun k => k = R ∨ k = U ∨ k = F ∨ k = B) wr (w2.alloc (.cells #[.slice (some ⟨R, 5, none⟩) 60 256] 41)) := ((Trod.drew wr).trans t2).trans (Trod.of_below hb3)
          have h3 := h2.quiet (Trod.of_below hb3)
          have cT : (w2.alloc (.cells #[.slice (some ⟨R, 5, none⟩) 60 256] 41)).cell? ⟨w2.heap.size, 0, none⟩ = some (.slice (some ⟨R, 5, none⟩) 60 256) := by rw [cell_of_heap _ _ _ _ _ _ hT]; rfl
          have zT := frozen_of_heap _ w2.heap.size 0 _ _ hT
          have hT2 : wr.heap.size ≤ w2.heap.size := t2.size
          have hTl : w2.heap.size < (w2.alloc (.cells #[.slice (some ⟨R, 5, none⟩) 60 256] 41)).heap.size := by simp
          generalize w2.alloc (.cells #[.slice (some ⟨R, 5, none⟩) 60 256] 41) = W3 at *
          generalize w2.heap.size = T at *
          clear hb3 hT h2 t2 hR60
          have by3 := rrow_bytes h3.row
          have hEq : ∀ W b, BytesAt W R 63 (cut hdr 58 60) → BytesAt W b 0 endB → Hid (Calls Tryd.prog 51 #[.slice (some ⟨R, 63, none⟩) 2 198, .slice (some ⟨b, 0, none⟩) 2 2] W fun x w' => x = .returned (.bool false) ∧ W = w') := fun W b y1 y2 => by
            have := Equal_any R 63 198 b 0 2 (cut hdr 58 60) endB W y1 y2
            rw [cut_length _ _ _ (by omega), show (cut hdr 58 60 == endB) = false from beq_eq_false_iff_ne.2 hcut2] at this
            exact this
          have by58 := cut_at by3 58 60
          go_region_held3 (fun W => W.cell? ⟨T, 0, none⟩ = some (.slice (some ⟨R, 5, none⟩) 60 256)) ((first | assumption | (simp [*]; done)))
            (first
              | (go_at_call 71; (with_reducible refine (archiveMagic_any _).mono ?_); rintro x w4 ⟨rfl, y4, hb4⟩; have t34 : Trod (fun _ => False) W3 w4 := (Trod.drew W3).trans (Trod.of_below hb4); have kT4 := t34.cell cT id; have by4 := t34.bytes by58 id; have y4' : BytesAt w4 W3.heap.size 0 endB := y4)
              | (go_at_call 51; (with_reducible refine ((hEq _ _ by4 y4').out).mono ?_); rintro x w5 ⟨rfl, rfl⟩))
          clear by58 hEq
          have h4 := h3.quiet t34
          have by40 := t34.bytes by3 id
          have zT4 := t34.frozen hTl zT id
          have hTl4 := Nat.lt_of_lt_of_le hTl t34.size
          have t04 : Trod (fun k => k = R ∨ k = U ∨ k = F ∨ k = B) wr w4 := t02.trans (t34.weaken fun k e => e.elim)
          clear h3 by3 zT t34 cT t02 by4 y4 y4' hb4
          have bD : Below D w w4 := Hbl.out.trans (t04.below hD (fun j hj e => by omega))
          obtain ⟨ca, hca, _⟩ := HL.out.cor.below bD
          go_wp2
          go_ret
          exact ParEnd.bad Hne.out _ bD
      · as_aux_lemma =>
          obtain ⟨hlt60, hcut2, c, l, hcl, hc1, hc2, hc3⟩ := h3
          have hne : tail ≠ [] := by intro e; rw [e] at hlt60; simp at hlt60
          have hl60 : (tail.take 60).length = 60 := by rw [List.length_take]; omega
          have q1 : (pos : Int) < (data.length : Int) := by omega
          have hR60 := hide (readFull_ok R A V U B F D cap 60 data pos tp' wr.drew (ho.quiet (Trod.drew _)) (by omega) (by omega))
          rw [hta] at hR60
          have hsl60 := fun W => arr256 W R 60 (by omega)
          generalize tail.take 60 = hdr at *
          have Hne := hide hne
          clear hdl hta hlt60 hne
          go_wp2
          go_region_held3 (fun W => W.cell? ⟨R, 3, none⟩ = some (.int .i64 pos) ∧ W.cell? ⟨R, 4, none⟩ = some (.int .i64 data.length)) ((first | exact ⟨d3, d4⟩ | assumption | (simp [*]; done))) (first | fail)
          go_wp2_with (go_at_call 70; (with_reducible refine (hR60.out).mono ?_); rintro x w2 ⟨rfl, h2, t2⟩)
          have hb3 : Below w2.heap.size w2 (w2.alloc (.cells #[.slice (some ⟨R, 5, none⟩) 60 256] 41)) := (Below.refl _ _).alloc (Nat.le_refl _) _
          have hT := heap_alloc_new w2 (.cells #[.slice (some ⟨R, 5, none⟩) 60 256] 41)
          have t02 : Trod (fun k => k = R ∨ k = U ∨ k = F ∨ k = B) wr (w2.alloc (.cells #[.slice (some ⟨R, 5, none⟩) 60 256] 41)) := ((Trod.drew wr).trans t2).trans (Trod.of_below hb3)
          have h3 := h2.quiet (Trod.of_below hb3)
          have cT : (w2.alloc (.cells #[.slice (some ⟨R, 5, none⟩) 60 256] 41)).cell? ⟨w2.heap.size, 0, none⟩ = some (.slice (some ⟨R, 5, none⟩) 60 256) := by rw [cell_of_heap _ _ _ _ _ _ hT]; rfl
          have zT := frozen_of_heap _ w2.heap.size 0 _ _ hT
          have hT2 : wr.heap.size ≤ w2.heap.size := t2.size
          have hTl : w2.heap.size < (w2.alloc (.cells #[.slice (some ⟨R, 5, none⟩) 60 256] 41)).heap.size := by simp
          generalize w2.alloc (.cells #[.slice (some ⟨R, 5, none⟩) 60 256] 41) = W3 at *
          generalize w2.heap.size = T at *
          clear hb3 hT h2 t2 hR60
          have by3 := rrow_bytes h3.row
          have hEq : ∀ W b, BytesAt W R 63 (cut hdr 58 60) → BytesAt W b 0 endB → Hid (Calls Tryd.prog 51 #[.slice (some ⟨R, 63, none⟩) 2 198, .slice (some ⟨b, 0, none⟩) 2 2] W fun x w' => x = .returned (.bool true) ∧ W = w') := fun W b y1 y2 => by
            rw [hcut2] at y1
            exact Equal_any R 63 198 b 0 2 [96, 10] endB W y1 y2
          have by58 := cut_at by3 58 60
          go_region_held3 (fun W => W.cell? ⟨T, 0, none⟩ = some (.slice (some ⟨R, 5, none⟩) 60 256)) ((first | assumption | (simp [*]; done)))
            (first
              | (go_at_call 71; (with_reducible refine (archiveMagic_any _).mono ?_); rintro x w4 ⟨rfl, y4, hb4⟩; have t34 : Trod (fun _ => False) W3 w4 := (Trod.drew W3).trans (Trod.of_below hb4); have kT4 := t34.cell cT id; have by4 := t34.bytes by58 id; have y4' : BytesAt w4 W3.heap.size 0 endB := y4)
              | (go_at_call 51; (with_reducible refine ((hEq _ _ by4 y4').out).mono ?_); rintro x w5 ⟨rfl, rfl⟩))
          clear by58 hEq
          have h4 := h3.quiet t34
          have by40 := t34.bytes by3 id
          have zT4 := t34.frozen hTl zT id
          have hTl4 := Nat.lt_of_lt_of_le hTl t34.size
          have t04 : Trod (fun k => k = R ∨ k = U ∨ k = F ∨ k = B) wr w4 := t02.trans (t34.weaken fun k e => e.elim)
          clear h3 by3 zT t34 cT t02 by4 y4 y4' hb4
          have bD : Below D w w4 := Hbl.out.trans (t04.below hD (fun j hj e => by omega))
          have hTS : Hid (∃ s, Calls Tryd.prog 40 #[.slice (some ⟨R, 5, none⟩) 16 256] w4 fun x w' => x = .returned (.string s) ∧ w4 = w') := by
            have := trimSpace_any R 5 256 (cut hdr 0 16) w4 (cut_at by40 0 16) (by rw [cut_length _ _ _ (by omega)]; omega) (by rw [cut_length _ _ _ (by omega)]; omega)
            rw [cut_length _ _ _ (by omega)] at this
            exact ⟨_, this⟩
          obtain ⟨s7, hTS⟩ := hTS.out
          have HTS := hide hTS
          have hll60 : l.length ≤ 1000 := by
            have := rtrim_length_le 32 (cut hdr 48 58)
            rw [hcl, cut_length _ _ _ (by omega)] at this
            simp at this; omega
          have gs := GSt.start w4 50
          have hGB : Hid (Calls Tryd.prog 72 #[.int .i64 48, .int .i64 58, .int .i64 10, .int .i64 64, .pointer (some ⟨w4.heap.size, 0, none⟩), .pointer (some ⟨T, 0, none⟩)] (w4.alloc (.cells #[.nilIface] 50))
              fun x w' => x = .returned (.int .i64 0) ∧ (∃ N, w'.cell? ⟨w4.heap.size, 0, none⟩ = some (.iface 174 (.pointer (some ⟨N, 0, none⟩)))) ∧ Trod (fun k => k = w4.heap.size) (w4.alloc (.cells #[.nilIface] 50)) w') :=
            get_bad R w4.heap.size T 48 58 10 64 hdr _ (gs.t.bytes by40 id) hl60 (by omega) (by omega) gs.e gs.z (gs.t.cell kT4 id) (by
              rw [hcl]
              exact ParseInt64_bad c l _ D hll60 hc1 hc2 hc3 (HL.out.syn.below (bD.trans (gs.t.below (by have := t04.size; omega) (fun j hj e => e)))))
          have hb5 : Below D w (w4.alloc (.cells #[.nilIface] 50)) := bD.trans (gs.t.below (by have := t04.size; omega) (fun j hj e => e))
          have hs5 : D ≤ (w4.alloc (.cells #[.nilIface] 50)).heap.size := by have := t04.size; simp; omega
          have hs4 : D ≤ w4.heap.size := by have := t04.size; omega
          have hgE := fun W N (h : W.cell? ⟨w4.heap.size, 0, none⟩ = some (.iface 174 (.pointer (some ⟨N, 0, none⟩)))) => (fun x0 x1 x2 x3 => hide (get_err w4.heap.size T x0 x1 x2 x3 _ _ W h))
          clear hcut2 hcl hc1 hc2 hc3 hll60 by40 h4 gs hTS
          cases vb
          · go_wp2_with (first
              | (go_at_call 40; (with_reducible refine (HTS.out).mono ?_); rintro x w5 ⟨rfl, rfl⟩)
              | (go_at_call 72; (with_reducible refine (hGB.out).mono ?_); rintro x w6 ⟨rfl, ⟨N, k6⟩, t6⟩; have bD6 : Below D w w6 := hb5.trans (t6.below hs5 (fun j hj e => by omega)); obtain ⟨ca, hca, _⟩ := HL.out.cor.below bD6))
            go_ret
            exact ParEnd.bad Hne.out _ bD6
          · go_wp2_with (first
              | (go_at_call 40; (with_reducible refine (HTS.out).mono ?_); rintro x w5 ⟨rfl, rfl⟩)
              | (go_at_call 72; (with_reducible refine (hGB.out).mono ?_); rintro x w6 ⟨rfl, ⟨N, k6⟩, t6⟩; have bD6 : Below D w w6 := hb5.trans (t6.below hs5 (fun j hj e => by omega)); obtain ⟨ca, hca, _⟩ := HL.out.cor.below bD6)
              | (go_at_call 72; (with_reducible refine ((hgE _ _ k6 _ _ _ _).out).mono ?_); rintro x w7 ⟨rfl, rfl⟩))
            go_ret
            exact ParEnd.bad Hne.out _ bD6
end Go.Proofs.YtgdghaijjhbegaaDoor
