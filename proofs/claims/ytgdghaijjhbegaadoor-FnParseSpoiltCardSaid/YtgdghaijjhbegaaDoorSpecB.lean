/- Walks of EntryOk, zzFits2: an entry by value. -/
import Derived.Test.YtgdghaijjhbegaaDoorSpecA
namespace Go.Proofs.YtgdghaijjhbegaaDoor
open Go.RowKit
set_option maxRecDepth 100000

def pkgdefN : List UInt8 := [95, 95, 46, 80, 75, 71, 68, 69, 70]
def kindOkB (nm : List UInt8) (kd : Int) (da : List UInt8) : Bool :=
  if nm == pkgdefN then kd == 0 else if sentinelB nm && da.isEmpty then kd == 3 else (kd == 2) && (decide (8 ≤ (da.length : Int)) && !goObjB da)
def headOkB (nm : List UInt8) (tm us gr md : Int) (da : List UInt8) : Bool :=
  nameOk nm && (withinB tm 0 999999999999 && (withinB us 0 999999 && (withinB gr 0 999999 && (withinB md 0 16777215 && decide ((da.length : Int) ≤ 1048576)))))
def entryOkB (nm : List UInt8) (kd tm us gr md : Int) (da : List UInt8) : Bool := headOkB nm tm us gr md da && kindOkB nm kd da

theorem ret_bool {a b : Bool} (h : a = b) : Ending.returned (.bool a) = Ending.returned (.bool b) := by rw [h]

set_option maxHeartbeats 1000000 in
theorem EntryOk_any (nm da : List UInt8) (kd tm us gr md off : Int) (w : World) (hn : nm.length ≤ 4611686018427387904) (hd : da.length ≤ 4611686018427387904) :
    Calls Tryd.prog 31 #[.agg #[.string ⟨nm.toArray⟩, .int .i64 kd, .int .i64 tm, .int .i64 us, .int .i64 gr, .int .i64 md, .string ⟨da.toArray⟩, .int .i64 off]] w
      fun e w' => e = .returned (.bool (entryOkB nm kd tm us gr md da)) ∧ Below w.heap.size w w' := by
  have hn' : nm.length ≤ 9223372036854775807 := by omega
  go_enter Tryd.func31, Tryd.ntmps31
  go_wp2_with (first | (go_at_call 13; refine (NameOk_any nm _ hn').mono ?_; rintro e w1 ⟨rfl, rfl⟩) | (go_at_call 20; refine (Within_any _ _ _ _).mono ?_; rintro e w1 ⟨rfl, rfl⟩) | (go_at_call 42; refine (Sentinel_any nm _).mono ?_; rintro e w1 ⟨rfl, rfl⟩) | (go_at_call 27; refine (GoObject_any da _ hd).mono ?_; rintro e w1 ⟨rfl, rfl⟩))
  all_goals go_ret
  all_goals refine ⟨ret_bool ?_, (Below.refl _ _).alloc (Nat.le_refl _) _⟩
  all_goals (clear hn hn' hd; simp_all [entryOkB, headOkB, kindOkB, pkgdefN])
  all_goals (intro h; omega)

set_option maxHeartbeats 400000 in
theorem zzFits2_any (nm da : List UInt8) (kd tm us gr md off : Int) (w : World) (hn : nm.length ≤ 9223372036854775807) (hd : da.length ≤ 9223372036854775807) :
    Calls Tryd.prog 30 #[.agg #[.string ⟨nm.toArray⟩, .int .i64 kd, .int .i64 tm, .int .i64 us, .int .i64 gr, .int .i64 md, .string ⟨da.toArray⟩, .int .i64 off]] w
      fun e w' => e = .returned (.bool (decide ((nm.length : Int) ≤ 2147483647) && decide ((da.length : Int) ≤ 2147483647))) ∧ Below w.heap.size w w' := by
  by_cases h1 : nm.length ≤ 2147483647
  · by_cases h2 : da.length ≤ 2147483647
    · go_enter Tryd.func30, Tryd.ntmps30
      go_wp2
      go_ret
      exact ⟨ret_bool (by simp; omega), (Below.refl _ _).alloc (Nat.le_refl _) _⟩
    · have h2' : 2147483647 < da.length := by omega
      clear h2
      go_enter Tryd.func30, Tryd.ntmps30
      go_wp2
      go_ret
      exact ⟨ret_bool (by simp; omega), (Below.refl _ _).alloc (Nat.le_refl _) _⟩
  · have h1' : 2147483647 < nm.length := by omega
    clear h1
    go_enter Tryd.func30, Tryd.ntmps30
    go_wp2
    go_ret
    exact ⟨ret_bool (by simp; omega), (Below.refl _ _).alloc (Nat.le_refl _) _⟩

/-- An entry: name, kind, time, user, group, mode, content, place. -/
structure Ent where
  name : List UInt8
  kind : Int
  time : Int
  user : Int
  group : Int
  mode : Int
  data : List UInt8
  off : Int

def Ent.cells (e : Ent) : List Value := [.string ⟨e.name.toArray⟩, .int .i64 e.kind, .int .i64 e.time, .int .i64 e.user, .int .i64 e.group, .int .i64 e.mode, .string ⟨e.data.toArray⟩, .int .i64 e.off]
def Ent.val (e : Ent) : Value := .agg #[.string ⟨e.name.toArray⟩, .int .i64 e.kind, .int .i64 e.time, .int .i64 e.user, .int .i64 e.group, .int .i64 e.mode, .string ⟨e.data.toArray⟩, .int .i64 e.off]
def Ent.okB (e : Ent) : Bool := entryOkB e.name e.kind e.time e.user e.group e.mode e.data

/-- Entries in memory. -/
def EntsAt (w : World) (b o : Nat) (es : List Ent) : Prop := ∀ i (h : i < es.length) j v, es[i].cells[j]? = some v → w.cell? ⟨b, o + i * 8 + j, none⟩ = some v

/-- No text among the entries is longer than a memory bears. -/
def EntsShort (es : List Ent) : Prop := ∀ e ∈ es, e.name.length ≤ 4611686018427387904 ∧ e.data.length ≤ 4611686018427387904

theorem EntsAt.below {w w' : World} {b o : Nat} {es : List Ent} (h : EntsAt w b o es) {B : Nat} (hb : Below B w w') (hB : b < B) : EntsAt w' b o es :=
  fun i hi j v hj => (hb.cell (p := ⟨b, o + i * 8 + j, none⟩) hB).trans (h i hi j v hj)

def entriesOkB (es : List Ent) : Bool := es.all Ent.okB && decide ((es.length : Int) ≤ 200)

set_option maxHeartbeats 1000000 in
theorem EntriesOk_any (p : Option Addr) (b o cap : Nat) (es : List Ent) (w : World) (hp : es ≠ [] → p = some ⟨b, o, none⟩) (hw : EntsAt w b o es) (hs : EntsShort es) (hl : es.length ≤ 4611686018427387904) (_hcap : es.length ≤ cap) (hB : b < w.heap.size) :
    Calls Tryd.prog 16 #[.slice p es.length cap] w fun e w' => e = .returned (.bool (entriesOkB es)) ∧ Below w.heap.size w w' := by
  go_enter Tryd.func16, Tryd.ntmps16
  go_wp2
  go_loopw [7] (fun s wr => ∃ k : Nat, k ≤ es.length ∧ s = .int .i64 k ∧ Hid ((es.take k).all Ent.okB = true) ∧ Below w.heap.size w wr) (fun s _ => es.length - (intOf s).toNat)
  case atStart => exact ⟨0, Nat.zero_le _, rfl, by show (es.take 0).all Ent.okB = true; simp, Below.refl _ _⟩
  case round =>
    obtain ⟨k, hk, rfl, hr, hb⟩ := hrel
    by_cases hlt : k < es.length
    · obtain rfl := hp (by rintro rfl; exact absurd hlt (Nat.not_lt_zero _))
      have hcells := (hw.below hb hB) k hlt
      have c0 : wr.cell? ⟨b, o + k * 8, none⟩ = _ := hcells 0 _ rfl
      have c1 := hcells 1 _ rfl
      have c2 := hcells 2 _ rfl
      have c3 := hcells 3 _ rfl
      have c4 := hcells 4 _ rfl
      have c5 := hcells 5 _ rfl
      have c6 := hcells 6 _ rfl
      have c7 := hcells 7 _ rfl
      have hsh := hs es[k] (List.getElem_mem hlt)
      have ht : (es.take (k + 1)).all Ent.okB = ((es.take k).all Ent.okB && es[k].okB) := by
        rw [List.take_succ_eq_append_getElem hlt, List.all_append]; simp only [List.all_cons, List.all_nil, Bool.and_true]
      have hm : es[k] ∈ es := List.getElem_mem hlt
      generalize es[k] = x at *
      clear hcells
      cases hx : x.okB
      · have hfin := hide (show entriesOkB es = false by
          have : es.all Ent.okB = false := by rw [List.all_eq_false]; exact ⟨x, hm, by rw [hx]; simp⟩
          simp [entriesOkB, this])
        have hE := fun W => hide ((EntryOk_any x.name x.data x.kind x.time x.user x.group x.mode x.off W hsh.1 hsh.2).mono fun e w' h => (⟨by rw [h.1]; exact ret_bool hx, h.2⟩ : e = .returned (.bool false) ∧ Below W.heap.size W w'))
        clear ht hm hx
        go_wp2_with (go_at_call 31; refine ((hE _).out).mono ?_; rintro e w1 ⟨rfl, hb1⟩)
        go_ret
        refine ⟨by rw [hfin.out]; rfl, ?_⟩
        exact (hb.alloc hb.size _).trans (hb1.mono (by have := hb.size; simp; omega))
      · have hE := fun W => hide ((EntryOk_any x.name x.data x.kind x.time x.user x.group x.mode x.off W hsh.1 hsh.2).mono fun e w' h => (⟨by rw [h.1]; exact ret_bool hx, h.2⟩ : e = .returned (.bool true) ∧ Below W.heap.size W w'))
        have hnew : Hid ((es.take (k + 1)).all Ent.okB = true) := by
          show _ = true
          rw [ht, hr.out, hx]; rfl
        clear ht hm hx
        go_wp2_with (go_at_call 31; refine ((hE _).out).mono ?_; rintro e w1 ⟨rfl, hb1⟩)
        go_roundw
        case rel => exact ⟨k + 1, by omega, by go_num, hnew, (hb.alloc hb.size _).trans (hb1.mono (by have := hb.size; simp; omega))⟩
        case measure => simp [intOf]; omega
    · have hfin := hide (show entriesOkB es = decide ((es.length : Int) ≤ 200) by
        have := hr.out
        rw [List.take_of_length_le (by omega)] at this
        simp [entriesOkB, this])
      go_wp2
      go_ret
      exact ⟨by rw [hfin.out]; rfl, hb⟩
end Go.Proofs.YtgdghaijjhbegaaDoor
