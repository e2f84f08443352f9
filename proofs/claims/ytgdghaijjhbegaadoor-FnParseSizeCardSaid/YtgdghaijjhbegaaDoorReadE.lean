/- The reader inside the reader: its Read is the buffered reader's. -/
import Derived.Test.YtgdghaijjhbegaaDoorReadD
namespace Go.Proofs.YtgdghaijjhbegaaDoor
open Go.RowKit
set_option maxRecDepth 100000

theorem bio_ahead (V : Nat) (W : World) : (nilAhead 332 83 (.pointer (some ⟨V, 0, none⟩)) "Read").run Tryd.prog W = .ok (some false) W := by kernel_rfl
theorem bio_method (V U : Nat) (W : World) (h : W.cell? ⟨V, 1, none⟩ = some (.pointer (some ⟨U, 0, none⟩))) :
    (method 332 83 (.pointer (some ⟨V, 0, none⟩)) "Read").run Tryd.prog W = .ok (155, .pointer (some ⟨U, 0, none⟩)) W := by
  have hq : (Tryd.prog.info? 83).map (fun i => (i.methods.find? (·.name == "Read")).map (fun m => (m.path.toList, m.func))) = some (some ([⟨115, 1, true⟩], some (155, true))) := by kernel_rfl
  obtain ⟨i, hi, hq⟩ := Option.map_eq_some_iff.1 hq
  obtain ⟨m, hm, hq⟩ := Option.map_eq_some_iff.1 hq
  simp only [Prod.mk.injEq] at hq
  have hs1 : ∀ W, (isAgg 113).run Tryd.prog W = .ok false W := fun _ => by kernel_rfl
  have hs2 : ∀ W, (sizeOf 113).run Tryd.prog W = .ok 1 W := fun _ => by kernel_rfl
  unfold method
  simp [typeInfo, hi, hm, hq.1, hq.2, follow, run_underlying Tryd.underlying115, run_underlying Tryd.underlying113, Place.get, asAddr, fieldPlace, receiverAt, loadVar, hs1, hs2, Addr.add, h]
end Go.Proofs.YtgdghaijjhbegaaDoor

/- The walks of io.ReadAtLeast and io.ReadFull over the buffered reader. -/
namespace Go.Proofs.YtgdghaijjhbegaaDoor
open Go.RowKit
set_option maxRecDepth 100000

theorem splice_more (L : List Value) (s : Nat) (xs ys : List UInt8) (h : s + xs.length + ys.length ≤ L.length) :
    splice (splice L s (bcells xs)) (s + xs.length) (bcells ys) = splice L s (bcells (xs ++ ys)) := by
  have h1 : (L.take s).length = s := by rw [List.length_take]; omega
  have e1 : (L.take s ++ (bcells xs ++ L.drop (s + (bcells xs).length))).take (s + xs.length) = L.take s ++ bcells xs := by
    rw [← List.append_assoc, List.take_left' (by rw [List.length_append, h1, bcells_length])]
  have e2 : (L.take s ++ (bcells xs ++ L.drop (s + (bcells xs).length))).drop (s + xs.length + (bcells ys).length) = L.drop (s + (bcells (xs ++ ys)).length) := by
    rw [← List.append_assoc, ← List.drop_drop, List.drop_left' (by rw [List.length_append, h1, bcells_length]), List.drop_drop]
    congr 1
    simp only [bcells_length, List.length_append]; omega
  unfold splice
  rw [e1, e2]
  simp [bcells]

set_option maxHeartbeats 4000000 in
theorem ReadAtLeast_any (V U B F D cap g s n c : Nat) (data : List UInt8) (pos r e : Nat) (cs : Array Value) (t : TypeId) (w : World) (hb : BAt w U B F D cap data pos r e) (hV : w.cell? ⟨V, 1, none⟩ = some (.pointer (some ⟨U, 0, none⟩))) (hg : w.heap[g]? = some (.cells cs t (0, 0)))
    (hn : s + n ≤ cs.size) (hn4 : n < 4096) (hnc : n ≤ c) (hpos : pos + n ≤ data.length) (hgU : g ≠ U) (hgB : g ≠ B) (hgF : g ≠ F) (hgD : g ≠ D) (hVU : V ≠ U) (hVB : V ≠ B) (hVF : V ≠ F) (hVg : V ≠ g) :
    Calls Tryd.prog 110 #[.iface 83 (.pointer (some ⟨V, 0, none⟩)), .slice (some ⟨g, s, none⟩) n c, .int .i64 n] w
      fun x w' => x = .returned (.tuple #[.int .i64 n, .nilIface]) ∧ (∃ r' e', BAt w' U B F D cap data (pos + n) r' e') ∧ w'.heap[g]? = some (.cells (splice cs.toList s (bcells ((data.drop pos).take n))).toArray t (0, 0)) ∧ Trod (fun k => k = U ∨ k = g ∨ k = F ∨ k = B) w w' := by
  go_enter Tryd.func110, Tryd.ntmps110
  go_wp2
  go_loopw [6, 7] (fun s6 s7 wr => ∃ k r e : Nat, s6 = .int .i64 k ∧ s7 = .nilIface ∧ k ≤ n ∧ BAt wr U B F D cap data (pos + k) r e ∧ wr.heap[g]? = some (.cells (splice cs.toList s (bcells ((data.drop pos).take k))).toArray t (0, 0)) ∧ Trod (fun k => k = U ∨ k = g ∨ k = F ∨ k = B) w wr) (fun s6 _ _ => n - (intOf s6).toNat)
  case atStart => exact ⟨0, r, e, rfl, rfl, Nat.zero_le _, hb, by simp [splice, bcells]; exact hg, Trod.refl w⟩
  case round =>
    obtain ⟨k, r1, e1, rfl, rfl, hk, hbr, hgr, htr⟩ := hrel
    by_cases hlt : k < n
    · have hxl : ((data.drop pos).take k).length = k := by rw [List.length_take, List.length_drop]; omega
      have hsz : (splice cs.toList s (bcells ((data.drop pos).take k))).length = cs.size := by
        rw [length_splice _ _ _ (by rw [bcells_length, hxl, Array.length_toList]; omega), Array.length_toList]
      obtain ⟨m, r', e', hm0, hmn, hml, hR⟩ := bRead_any U B F D cap g (s + k) (n - k) (c - k) data (pos + k) r1 e1 _ t wr.drew (hbr.trod (S := fun _ => False) (Trod.drew _) id id id id) hgr (by rw [List.size_toArray, hsz]; omega) (by omega) (by omega) (by omega) hgU hgB hgF hgD
      have hsp : splice (splice cs.toList s (bcells ((data.drop pos).take k))) (s + k) (bcells ((data.drop (pos + k)).take m)) = splice cs.toList s (bcells ((data.drop pos).take (k + m))) := by
        have hyl : ((data.drop (pos + k)).take m).length = m := by rw [List.length_take, List.length_drop]; omega
        have := splice_more cs.toList s ((data.drop pos).take k) ((data.drop (pos + k)).take m) (by rw [hxl, hyl, Array.length_toList]; omega)
        rw [hxl] at this
        rw [this, List.take_add, List.drop_drop]
      have hVr : wr.cell? ⟨V, 1, none⟩ = _ := htr.cell hV (by simp only [not_or]; exact ⟨hVU, hVg, hVF, hVB⟩)
      have hM := fun W h => bio_method V U W h
      have hN := bio_ahead V
      have hM1 := bio_method V U wr.drew hVr
      have q1 : ¬ (c = k) := by omega
      have q2 : (k : Int) ≤ (n : Int) := by omega
      have q3 : (k : Int) < (n : Int) := by omega
      have HR := hide hR
      clear hR
      go_wp2
      go_region_held3 (fun _ => True) (trivial) (first | (go_at_call 155; (with_reducible refine (HR.out).mono ?_); rintro x w2 ⟨rfl, hb2, hg2, ht2⟩))
      go_wp2
      go_roundw
      case rel =>
        refine ⟨k + m, r', e', by go_num, rfl, by omega, ?_, ?_, htr.trans ((Trod.drew wr).trans ht2)⟩
        · rw [show pos + (k + m) = pos + k + m by omega]; exact hb2
        · rw [← hsp]; exact hg2
      case measure => simp [intOf]; omega
    · obtain rfl : k = n := by omega
      go_wp2
      go_ret2
      exact ⟨rfl, ⟨r1, e1, hbr⟩, hgr, htr⟩

set_option maxHeartbeats 400000 in
theorem ReadFull_any (V U B F D cap g s n c : Nat) (data : List UInt8) (pos r e : Nat) (cs : Array Value) (t : TypeId) (w : World) (hb : BAt w U B F D cap data pos r e) (hV : w.cell? ⟨V, 1, none⟩ = some (.pointer (some ⟨U, 0, none⟩))) (hg : w.heap[g]? = some (.cells cs t (0, 0)))
    (hn : s + n ≤ cs.size) (hn4 : n < 4096) (hnc : n ≤ c) (hpos : pos + n ≤ data.length) (hgU : g ≠ U) (hgB : g ≠ B) (hgF : g ≠ F) (hgD : g ≠ D) (hVU : V ≠ U) (hVB : V ≠ B) (hVF : V ≠ F) (hVg : V ≠ g) :
    Calls Tryd.prog 93 #[.iface 83 (.pointer (some ⟨V, 0, none⟩)), .slice (some ⟨g, s, none⟩) n c] w
      fun x w' => x = .returned (.tuple #[.int .i64 n, .nilIface]) ∧ (∃ r' e', BAt w' U B F D cap data (pos + n) r' e') ∧ w'.heap[g]? = some (.cells (splice cs.toList s (bcells ((data.drop pos).take n))).toArray t (0, 0)) ∧ Trod (fun k => k = U ∨ k = g ∨ k = F ∨ k = B) w w' := by
  have hR := hide (ReadAtLeast_any V U B F D cap g s n c data pos r e cs t w hb hV hg hn hn4 hnc hpos hgU hgB hgF hgD hVU hVB hVF hVg)
  go_enter Tryd.func93, Tryd.ntmps93
  go_wp2_with (go_at_call 110; (with_reducible refine (hR.out).mono ?_); rintro x w2 ⟨rfl, h1, h2, h3⟩)
  go_ret2
  exact ⟨rfl, h1, h2, h3⟩
end Go.Proofs.YtgdghaijjhbegaaDoor
