/- The walk of impl.Parse over an archive. -/
import Derived.Test.YtgdghaijjhbegaaDoorParD
import Derived.Test.YtgdghaijjhbegaaDoorSpecE
namespace Go.Proofs.YtgdghaijjhbegaaDoor
open Go.RowKit
set_option maxRecDepth 100000

theorem acells_length (vb : Bool) (e : Ent) (off : Nat) : (acells vb e off).length = 9 := rfl
theorem recs_length (vb : Bool) (es : List Ent) : ∀ k, k ≤ es.length → (recs vb es k).length = k * 9
  | 0, _ => rfl
  | k + 1, h => by rw [recs_succ vb es k (by omega), List.length_append, recs_length vb es k (by omega), acells_length]; omega
theorem recs_get (vb : Bool) (es : List Ent) : ∀ n (_ : n ≤ es.length) i j (_ : i < n), j < 9 → (recs vb es n)[i * 9 + j]? = (acells vb (es[i]'(by omega)) (posAt es i + 60))[j]?
  | 0, _, i, _, h, _ => absurd h (Nat.not_lt_zero _)
  | n + 1, hn, i, j, h, hj => by
    rw [recs_succ vb es n (by omega)]
    by_cases hi : i < n
    · rw [List.getElem?_append_left (by rw [recs_length vb es n (by omega)]; omega)]
      exact recs_get vb es n (by omega) i j hi hj
    · obtain rfl : i = n := by omega
      rw [List.getElem?_append_right (by rw [recs_length vb es i (by omega)]; omega), recs_length vb es i (by omega), show i * 9 + j - i * 9 = j by omega]
      rfl

theorem OwnEnts.mono {w : World} {B B' : Nat} {v : Value} {es : List Ent} (h : OwnEnts w B v es) (hB : B' ≤ B) : OwnEnts w B' v es := by
  refine ⟨h.1, ?_⟩
  rcases h.2 with hn | ⟨g, cap, cur, hv, hb, r⟩
  · exact Or.inl hn
  · exact Or.inr ⟨g, cap, cur, hv, by omega, r⟩

theorem archB_len_le {es : List Ent} (hok : es.all Ent.okB = true) (hl : es.length ≤ 400) : (archB es).length ≤ 1000000000 := by
  have := posAt_le_big hok es.length (Nat.le_refl _)
  rw [posAt_end] at this
  omega

/-- What stands in the archive at an entry's place. -/
theorem extract_at {es : List Ent} {data : List UInt8} (hok : es.all Ent.okB = true) (hd : data = archB es) {k : Nat} (hk : k < es.length) (a b : Nat) (ha : a = posAt es k + 60) (hb : b = a + es[k].data.length) :
    (ByteArray.mk data.toArray).extract a b = ⟨es[k].data.toArray⟩ := by
  subst ha hb hd
  rw [ByteArray.extract_mk]
  have h := data_at (tail := []) hok hk
  rw [List.append_nil] at h
  rw [← h]
  simp

set_option maxHeartbeats 4000000 in
theorem iParse_ok (vb : Bool) (es : List Ent) (data : List UInt8) (w : World) (hok : es.all Ent.okB = true) (hdata : data = archB es) (hes : es.length ≤ 400) (hL : PLaid w w.heap.size) :
    Calls Tryd.prog 26 #[.string ⟨data.toArray⟩, .bool vb] w fun x w' => ∃ v, x = .returned (.tuple #[v, .bool true]) ∧ OwnEnts w' w.heap.size v (outs vb es es.length) ∧ Below w.heap.size w w' := by
  have hdl : data.length ≤ 1000000000 := by rw [hdata]; exact archB_len_le hok hes
  have hd0 : 0 < data.length := by rw [hdata]; simp [archB, magicB]
  have hcv := Lib.run_convert_string_bytes (P := Tryd.prog) w 9 41 5 ⟨data.toArray⟩ Tryd.underlying9 Tryd.underlying41 Tryd.underlying5
  have hb := below_bytesWorld w 5 ⟨data.toArray⟩
  have hB := bytesAt_bytesWorld w 5 data
  have hsz : (ByteArray.mk data.toArray).size = data.length := by simp [ByteArray.size]
  rw [hsz] at hcv
  generalize Lib.bytesWorld w 5 ⟨data.toArray⟩ = W1 at *
  have HNF := hide (NewFile_bytes ⟨#[97]⟩ w.heap.size (grownCap w data.length 0 5) data W1 hB (by omega) hd0)
  have HPA := fun F D cap W h1 h2 h3 => hide (Parse_arc F D cap vb es data W h1 hok hdata (by omega) (PLaid.mono (hL.below h2) h3))
  have Hdata := hide hdata
  have Hsz := hide hsz
  have Hd0 := hide hd0
  clear hdata hB hsz hd0
  go_enter Tryd.func26, Tryd.ntmps26
  go_wp2_with (first
    | (go_at_call 32; (with_reducible refine (HNF.out).mono ?_); rintro x w2 ⟨F, D, cap, rfl, hf2, hD2, hb2⟩; have hbw2 : Below w.heap.size w w2 := hb.trans (hb2.mono hb.size); have HP := HPA F D cap w2 hf2 hbw2 (by have := hb.size; omega))
    | (go_at_call 39; (with_reducible refine (HP.out).mono ?_); rintro x w3 ⟨⟨A, V, rfl, hp3⟩, hb3⟩; have hbw3 : Below w.heap.size w w3 := hbw2.trans (hb3.mono (by have := hb.size; omega)); obtain ⟨p, c, ha1, hown3⟩ := hp3.own; have hhi3 := hp3.hi))
  clear HPA HNF HP hcv
  generalize hob : w3.heap.size = B3 at *
  go_loopw [8, 28] (fun s8 s28 wr => ∃ k : Nat, k ≤ es.length ∧ s28 = .int .i64 k ∧ OwnEnts wr B3 s8 (outs vb es k) ∧ Below B3 w3 wr) (fun _ s _ => es.length - (intOf s).toNat)
  case atStart => exact ⟨0, Nat.zero_le _, rfl, by rw [← hob]; exact OwnEnts.empty w3, by rw [← hob]; exact (Below.refl _ _).alloc (Nat.le_refl _) _⟩
  case round =>
    obtain ⟨k, hk, rfl, hown, hb5⟩ := hrel
    by_cases hlt : k < es.length
    · obtain ⟨g, o, rfl, hcell⟩ : ∃ g o, p = some ⟨g, o, none⟩ ∧ ∀ j, j < 9 → ∀ u, (acells vb es[k] (posAt es k + 60))[j]? = some u → wr.cell? ⟨g, o + k * 9 + j, none⟩ = some u := by
        rcases hown3.2 with ⟨_, h0⟩ | ⟨g, cap', cur, hv, hb6, hg6, _⟩
        · omega
        · injection hv with hv _ _
          refine ⟨g, 0, hv, fun j hj u hu => ?_⟩
          have hgl : g < B3 := by rw [← hob]; exact (Array.getElem?_eq_some_iff.1 hg6).1
          refine (hb5.cell (p := ⟨g, 0 + k * 9 + j, none⟩) hgl).trans ?_
          have h := World.ownsRow.cells hown3 (g := g) (by rw [hv]; rfl) (k * 9 + j) u (by rw [recs_get vb es es.length (Nat.le_refl _) k j hlt hj]; exact hu)
          have hadd : (⟨g, 0, none⟩ : Addr).add (k * 9 + j) = ⟨g, 0 + k * 9 + j, none⟩ := by unfold Addr.add; split <;> simp_all
          rw [hadd] at h
          exact h
      have c0 : wr.cell? ⟨g, o + k * 9, none⟩ = _ := hcell 0 (by omega) _ rfl
      have c1 := hcell 1 (by omega) _ rfl
      have c2 := hcell 2 (by omega) _ rfl
      have c3 := hcell 3 (by omega) _ rfl
      have c4 := hcell 4 (by omega) _ rfl
      have c5 := hcell 5 (by omega) _ rfl
      have c6 := hcell 6 (by omega) _ rfl
      have c7 := hcell 7 (by omega) _ rfl
      have c8 := hcell 8 (by omega) _ rfl
      have hext := extract_at hok Hdata.out hlt (posAt es k + 60) (posAt es k + 60 + es[k].data.length) rfl rfl
      have hle := posAt_le (tail := []) hok hlt
      rw [List.append_nil, ← Hdata.out] at hle
      have hos := outs_succ vb es k hlt
      have hol := outs_length vb es k (by omega)
      obtain ⟨_, h1, h2, h3, h4, h5⟩ := okB_bounds (ok_at hok hlt)
      have hmd : IntKind.i64.wrap (if vb = true then es[k].mode else 0) = (if vb = true then es[k].mode else 0) := by
        rw [IntKind.wrap_i64]; split <;> omega
      have hE : outE vb (posAt es k + 60) es[k] = ⟨es[k].name, es[k].kind, if vb = true then es[k].time else 0, if vb = true then es[k].user else 0, if vb = true then es[k].group else 0, if vb = true then es[k].mode else 0, es[k].data, ((posAt es k + 60 : Nat) : Int)⟩ := rfl
      rw [hE] at hos
      clear hcell hE
      generalize (if vb = true then es[k].time else 0) = tm at *
      generalize (if vb = true then es[k].user else 0) = us at *
      generalize (if vb = true then es[k].group else 0) = gr at *
      generalize (if vb = true then es[k].mode else 0) = md at *
      generalize es[k] = x at *
      generalize posAt es k + 60 = q at *
      have hq1 : (q : Int) + x.data.length ≤ data.length := by omega
      have hsz3 : B3 ≤ wr.heap.size := by have := hb5.size; omega
      obtain ⟨v', w1, hr, hg, ho⟩ := out_append ((wr.alloc (.cells #[.string ⟨x.name.toArray⟩, .int .i64 x.kind, .int .i64 tm, .int .i64 us, .int .i64 gr, .int .u32 md, .int .i64 (q : Int), .int .i64 (x.data.length : Int), .pointer none] 62)).alloc (.cells #[.string ⟨x.name.toArray⟩, .int .i64 x.kind, .int .i64 tm, .int .i64 us, .int .i64 gr, .int .i64 md, .string ⟨x.data.toArray⟩, .int .i64 (q : Int)] 33)) B3 u8 (outs vb es k) ⟨x.name, x.kind, tm, us, gr, md, x.data, (q : Int)⟩ ((hown.alloc _).alloc _) (by simp; omega) (by omega)
      have hr2 : (Builtin.append_ #[25, 25] 25 #[u8, .slice (some ⟨wr.heap.size + 1 + 1, 0, none⟩) 1 1]).run Tryd.prog (((wr.alloc (.cells #[.string ⟨x.name.toArray⟩, .int .i64 x.kind, .int .i64 tm, .int .i64 us, .int .i64 gr, .int .u32 md, .int .i64 (q : Int), .int .i64 (x.data.length : Int), .pointer none] 62)).alloc (.cells #[.string ⟨x.name.toArray⟩, .int .i64 x.kind, .int .i64 tm, .int .i64 us, .int .i64 gr, .int .i64 md, .string ⟨x.data.toArray⟩, .int .i64 (q : Int)] 33)).alloc (.cells #[.string ⟨x.name.toArray⟩, .int .i64 x.kind, .int .i64 tm, .int .i64 us, .int .i64 gr, .int .i64 md, .string ⟨x.data.toArray⟩, .int .i64 (q : Int)] 33)) = .ok v' w1 := by
        simpa [Ent.cells] using hr
      rw [← hos] at ho
      have Hfin : Hid (Below B3 w3 w1) := ((hb5.alloc hsz3 _).alloc (by simp; omega) _).grown hg (by simp; omega) hown.ge
      clear hr hos hol hg
      go_wp2_with (at_builtin; refine wpList_run rfl (run_append_exec _ _ _ _ rfl rfl rfl hr2) ?_)
      go_roundw
      case rel => exact ⟨k + 1, by omega, by go_num, ho, Hfin.out⟩
      case measure => simp [intOf]; omega
    · have hkl : k = es.length := by omega
      subst hkl
      go_wp2
      go_ret2
      refine ⟨_, rfl, hown.mono (by have := hbw3.size; omega), hbw3.trans (hb5.mono (by have := hbw3.size; omega))⟩
end Go.Proofs.YtgdghaijjhbegaaDoor
