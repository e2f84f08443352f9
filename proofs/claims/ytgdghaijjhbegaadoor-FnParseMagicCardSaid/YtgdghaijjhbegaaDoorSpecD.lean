/- The walk of Archive; zzFits1. -/
import Derived.Test.YtgdghaijjhbegaaDoorSpecC
namespace Go.Proofs.YtgdghaijjhbegaaDoor
open Go.RowKit
set_option maxRecDepth 100000

theorem digits_len_le (base : Nat) (hb : 2 ≤ base) : ∀ (k n : Nat), n < base ^ (k + 1) → (digits base n).length ≤ k + 1 := by
  intro k
  induction k with
  | zero => intro n h; rw [digits, if_pos (by simp at h; omega)]; simp
  | succ k ih =>
    intro n h
    rw [digits]
    split
    · simp
    · have : n / base < base ^ (k + 1) := by
        rw [Nat.div_lt_iff_lt_mul (by omega), ← Nat.pow_succ]; exact h
      have := ih (n / base) this
      simp only [List.length_append, List.length_cons, List.length_nil]; omega
theorem digits_len_pos (base n : Nat) : 1 ≤ (digits base n).length := by
  rw [digits]; split <;> simp

/-- What is known of the numbers of an entry that is ok. -/
theorem okB_bounds {e : Ent} (h : e.okB = true) : e.name.length ≤ 16 ∧ (0 ≤ e.time ∧ e.time ≤ 999999999999) ∧ (0 ≤ e.user ∧ e.user ≤ 999999) ∧ (0 ≤ e.group ∧ e.group ≤ 999999) ∧ (0 ≤ e.mode ∧ e.mode ≤ 16777215) ∧ e.data.length ≤ 1048576 := by
  unfold Ent.okB entryOkB headOkB nameOk withinB at h
  simp only [Bool.and_eq_true, decide_eq_true_eq] at h
  obtain ⟨⟨⟨_, _, h0⟩, h1, h2, h3, h4, h5⟩, _⟩ := h
  exact ⟨h0, h1, h2, h3, h4, by omega⟩

theorem headerN_length (nm : List UInt8) (tm us gr md sz : Nat) (h0 : nm.length ≤ 16) (h1 : tm ≤ 999999999999) (h2 : us ≤ 999999) (h3 : gr ≤ 999999) (h4 : md ≤ 16777215) (h5 : sz ≤ 9999999999) :
    (headerN nm tm us gr md sz).length = 60 := by
  have a1 := digits_len_le 10 (by omega) 11 tm (by omega)
  have a2 := digits_len_le 10 (by omega) 5 us (by omega)
  have a3 := digits_len_le 10 (by omega) 5 gr (by omega)
  have a4 := digits_len_le 8 (by omega) 7 md (by omega)
  have a5 := digits_len_le 10 (by omega) 9 sz (by omega)
  unfold headerN
  simp only [List.length_append, padTo_length, List.length_cons, List.length_nil]
  omega

def Ent.header (e : Ent) : List UInt8 := headerN e.name e.time.toNat e.user.toNat e.group.toNat e.mode.toNat e.data.length
def padB (da : List UInt8) : List UInt8 := if da.length % 2 = 1 then [0] else []
/-- An entry's bytes in an archive. -/
def Ent.bytes (e : Ent) : List UInt8 := e.header ++ e.data ++ padB e.data
def magicB : List UInt8 := [33, 60, 97, 114, 99, 104, 62, 10]
def entsB (es : List Ent) : List UInt8 := (es.map Ent.bytes).flatten
def archB (es : List Ent) : List UInt8 := magicB ++ entsB es

theorem Ent.header_length {e : Ent} (h : e.okB = true) : e.header.length = 60 := by
  obtain ⟨h0, h1, h2, h3, h4, h5⟩ := okB_bounds h
  exact headerN_length _ _ _ _ _ _ h0 (by omega) (by omega) (by omega) (by omega) (by omega)
theorem padB_length (da : List UInt8) : (padB da).length = da.length % 2 := by
  unfold padB; split <;> simp <;> omega
theorem Ent.bytes_length {e : Ent} (h : e.okB = true) : e.bytes.length = 60 + e.data.length + e.data.length % 2 := by
  unfold Ent.bytes
  simp only [List.length_append, Ent.header_length h, padB_length]
theorem entsB_snoc (es : List Ent) (e : Ent) : entsB (es ++ [e]) = entsB es ++ e.bytes := by simp [entsB]
theorem entsB_length_le (es : List Ent) (h : es.all Ent.okB = true) : (entsB es).length ≤ es.length * 1048637 := by
  induction es with
  | nil => simp [entsB]
  | cons e es ih =>
    simp only [List.all_cons, Bool.and_eq_true] at h
    have h1 := Ent.bytes_length h.1
    have h2 := (okB_bounds h.1).2.2.2.2.2
    have := ih h.2
    simp only [entsB, List.map_cons, List.flatten_cons, List.length_append, List.length_cons] at this ⊢
    omega
theorem all_take {es : List Ent} (h : es.all Ent.okB = true) (k : Nat) : (es.take k).all Ent.okB = true := by
  rw [List.all_eq_true] at h ⊢
  exact fun e he => h e (List.mem_of_mem_take he)

set_option maxHeartbeats 2000000 in
theorem Archive_any (p : Option Addr) (b o cap : Nat) (es : List Ent) (w : World) (hp : es ≠ [] → p = some ⟨b, o, none⟩) (hw : EntsAt w b o es) (hok : entriesOkB es = true) (_hcap : es.length ≤ cap) (hB : b < w.heap.size) :
    Calls Tryd.prog 19 #[.slice p es.length cap] w fun e w' => e = .returned (.string ⟨(archB es).toArray⟩) ∧ Below w.heap.size w w' := by
  unfold entriesOkB at hok
  simp only [Bool.and_eq_true, decide_eq_true_eq] at hok
  obtain ⟨hall, hl⟩ := hok
  go_enter Tryd.func19, Tryd.ntmps19
  go_wp2
  go_loopw [3, 8] (fun t s wr => ∃ k : Nat, k ≤ es.length ∧ s = .int .i64 k ∧ t = .string ⟨(archB (es.take k)).toArray⟩ ∧ Below w.heap.size w wr) (fun _ s _ => es.length - (intOf s).toNat)
  case atStart => exact ⟨0, Nat.zero_le _, rfl, rfl, Below.refl _ _⟩
  case round =>
    obtain ⟨k, hk, rfl, rfl, hb⟩ := hrel
    by_cases hlt : k < es.length
    · obtain rfl := hp (by rintro rfl; exact absurd hlt (Nat.not_lt_zero _))
      have hcells := (hw.below hb hB) k hlt
      have c0 : wr.cell? ⟨b, o + k * 8, none⟩ = _ := hcells 0 _ rfl
      have c1 := hcells 1 _ rfl
      have c2 := hcells 2 _ rfl
      have c3 := hcells 3 _ rfl
      have c4 := hcells 4 _ rfl
      have c5 := hcells 5 _ rfl
      have c6 := hcells 6 _ rfl
      have c7 := hcells 7 _ rfl
      have hx : es[k].okB = true := List.all_eq_true.1 hall _ (List.getElem_mem hlt)
      have ht := hide (show archB (es.take (k + 1)) = archB (es.take k) ++ es[k].bytes by
        rw [List.take_succ_eq_append_getElem hlt]; simp only [archB, entsB_snoc, List.append_assoc])
      have hlen : (archB (es.take k)).length ≤ 1000000000 := by
        have := entsB_length_le _ (all_take hall k)
        simp only [archB, List.length_append, List.length_take, magicB, List.length_cons, List.length_nil] at this ⊢
        omega
      generalize es[k] = x at *
      generalize archB (es.take k) = acc at *
      obtain ⟨h0, h1, h2, h3, h4, h5⟩ := okB_bounds hx
      obtain ⟨nm, kd, tm, us, gr, md, da, off⟩ := x
      dsimp only at *
      obtain ⟨tm, rfl⟩ := Int.eq_ofNat_of_zero_le h1.1
      obtain ⟨us, rfl⟩ := Int.eq_ofNat_of_zero_le h2.1
      obtain ⟨gr, rfl⟩ := Int.eq_ofNat_of_zero_le h3.1
      obtain ⟨md, rfl⟩ := Int.eq_ofNat_of_zero_le h4.1
      have hH := fun W => hide (Header_any nm da kd off tm us gr md W (by omega) (by omega) (by omega) (by omega) (by omega) (by omega))
      have hhl : (headerN nm tm us gr md da.length).length = 60 := headerN_length _ _ _ _ _ _ h0 (by omega) (by omega) (by omega) (by omega) (by omega)
      have hhl' : (headerN nm tm us gr md da.length).length ≤ 60 := by omega
      have ht := hide (show archB (es.take (k + 1)) = acc ++ (headerN nm tm us gr md da.length ++ da ++ padB da) by
        rw [ht.out]; simp [Ent.bytes, Ent.header])
      clear hcells hx h0 h1 h2 h3 h4 hhl
      generalize headerN nm tm us gr md da.length = hd at *
      have q1 : ¬ 9223372036854775807 < hd.length + da.length := by omega
      have q2 : ¬ 9223372036854775807 < acc.length + (hd.length + da.length) := by omega
      have q3 : ¬ 9223372036854775807 < acc.length + (hd.length + da.length) + 1 := by omega
      by_cases hodd : da.length % 2 = 1
      · have ho : ((da.length : Int) % 2 == 1) = true := beq_iff_eq.2 (by omega)
        have hfin := hide (show padB da = [0] by simp [padB, hodd])
        clear hodd
        go_wp2_with (fail)
        go_region_held3 (fun W' => W'.cell? ⟨wr.heap.size, 0, none⟩ = some (.string ⟨nm.toArray⟩) ∧ W'.cell? ⟨wr.heap.size, 1, none⟩ = some (.int .i64 kd) ∧ W'.cell? ⟨wr.heap.size, 2, none⟩ = some (.int .i64 tm) ∧ W'.cell? ⟨wr.heap.size, 3, none⟩ = some (.int .i64 us)
            ∧ W'.cell? ⟨wr.heap.size, 4, none⟩ = some (.int .i64 gr) ∧ W'.cell? ⟨wr.heap.size, 5, none⟩ = some (.int .i64 md) ∧ W'.cell? ⟨wr.heap.size, 6, none⟩ = some (.string ⟨da.toArray⟩) ∧ W'.cell? ⟨wr.heap.size, 7, none⟩ = some (.int .i64 off))
          ((first | assumption | (simp [*]; done)))
          (first
            | (go_at_call 21; (with_reducible refine ((hH _).out).mono ?_); rintro e w1 ⟨rfl, hb1⟩; have kk := fun j => hb1.cell (p := ⟨wr.heap.size, j, none⟩) (by simp)))
        go_wp2
        go_roundw
        case rel =>
          refine ⟨k + 1, by omega, by go_num, ?_, (hb.alloc hb.size _).drew.trans (hb1.mono (by have := hb.size; simp; omega))⟩
          refine congrArg Value.string ?_
          rw [ht.out, hfin.out]
          simp [mk_append]
        case measure => simp [intOf]; omega
      · have ho : ((da.length : Int) % 2 == 1) = false := beq_eq_false_iff_ne.2 (by omega)
        have hfin := hide (show padB da = [] by simp [padB, hodd])
        clear hodd
        go_wp2_with (fail)
        go_region_held3 (fun W' => W'.cell? ⟨wr.heap.size, 0, none⟩ = some (.string ⟨nm.toArray⟩) ∧ W'.cell? ⟨wr.heap.size, 1, none⟩ = some (.int .i64 kd) ∧ W'.cell? ⟨wr.heap.size, 2, none⟩ = some (.int .i64 tm) ∧ W'.cell? ⟨wr.heap.size, 3, none⟩ = some (.int .i64 us)
            ∧ W'.cell? ⟨wr.heap.size, 4, none⟩ = some (.int .i64 gr) ∧ W'.cell? ⟨wr.heap.size, 5, none⟩ = some (.int .i64 md) ∧ W'.cell? ⟨wr.heap.size, 6, none⟩ = some (.string ⟨da.toArray⟩) ∧ W'.cell? ⟨wr.heap.size, 7, none⟩ = some (.int .i64 off))
          ((first | assumption | (simp [*]; done)))
          (first
            | (go_at_call 21; (with_reducible refine ((hH _).out).mono ?_); rintro e w1 ⟨rfl, hb1⟩; have kk := fun j => hb1.cell (p := ⟨wr.heap.size, j, none⟩) (by simp)))
        go_wp2
        go_roundw
        case rel =>
          refine ⟨k + 1, by omega, by go_num, ?_, (hb.alloc hb.size _).drew.trans (hb1.mono (by have := hb.size; simp; omega))⟩
          refine congrArg Value.string ?_
          rw [ht.out, hfin.out]
          simp [mk_append]
        case measure => simp [intOf]; omega
    · go_wp2
      go_ret
      refine ⟨?_, hb⟩
      rw [List.take_of_length_le (by omega)]; rfl
end Go.Proofs.YtgdghaijjhbegaaDoor
