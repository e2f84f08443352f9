/- Plain laws: an archive that is cut within a header, or one byte of which is another, is good entries with a bad end behind them; archives joined. -/
import Derived.Test.YtgdghaijjhbegaaDoorParC
import Derived.Test.YtgdghaijjhbegaaDoorSpecE
namespace Go.Proofs.YtgdghaijjhbegaaDoor
open Go.RowKit
set_option maxRecDepth 100000

theorem rtrim_cons {c : UInt8} (h : c ≠ 32) (l : List UInt8) : rtrim 32 (c :: l) = c :: rtrim 32 l := by
  unfold rtrim
  rw [List.reverse_cons, List.dropWhile_append]
  split
  · rename_i hx
    rw [List.isEmpty_iff] at hx
    rw [hx]
    simp [h]
  · simp

section
variable {es : List Ent} (hok : es.all Ent.okB = true) {k : Nat} (hk : k < es.length)
include hk
theorem archB_at : archB es = archB (es.take k) ++ (es[k].header ++ (es[k].data ++ (padB es[k].data ++ entsB (es.drop (k + 1))))) := by
  have h := archB_split (tail := []) hk
  rw [List.append_nil, List.append_nil] at h
  exact h
include hok
theorem cut_bad {n : Nat} (h1 : 1 ≤ n) (h2 : n ≤ 59) : ∃ tail, (archB es).take (posAt es k + n) = archB (es.take k) ++ tail ∧ tailBad tail := by
  have hl := Ent.header_length (ok_at hok hk)
  refine ⟨es[k].header.take n, ?_, Or.inl ⟨by rw [List.length_take]; omega, by rw [List.length_take]; omega⟩⟩
  rw [archB_at hk]
  unfold posAt
  rw [List.take_length_add_append, List.take_append_of_le_length (by omega)]

theorem archB_set {i : Nat} (hi : i < 60) (c : UInt8) : (archB es).set (posAt es k + i) c = archB (es.take k) ++ (es[k].header.set i c ++ (es[k].data ++ (padB es[k].data ++ entsB (es.drop (k + 1))))) := by
  have hl := Ent.header_length (ok_at hok hk)
  rw [archB_at hk]
  unfold posAt
  rw [List.set_append_right _ _ (by omega), Nat.add_sub_cancel_left, List.set_append_left _ _ (by omega)]

theorem spoilt_bad {i : Nat} (hi : i = 58 ∨ i = 59) (c : UInt8) (hc : (archB es)[posAt es k + i]? ≠ some c) : ∃ tail, (archB es).set (posAt es k + i) c = archB (es.take k) ++ tail ∧ tailBad tail := by
  have hl := Ent.header_length (ok_at hok hk)
  have hhc : es[k].header[i]? ≠ some c := by
    intro e
    refine hc ?_
    rw [archB_at hk]
    unfold posAt
    rw [List.getElem?_append_right (by omega), Nat.add_sub_cancel_left, List.getElem?_append_left (by omega), e]
  refine ⟨_, archB_set hok hk (by omega) c, Or.inr (Or.inl ⟨by rw [List.length_append, List.length_set]; omega, ?_⟩)⟩
  rw [List.take_left' (by rw [List.length_set]; exact hl)]
  have f6 := (fields_at (ok_at hok hk)).2.2.2.2.2.2
  generalize es[k].header = h at *
  intro e
  apply hhc
  have a := congrArg (fun l => l[i - 58]?) e
  have b := congrArg (fun l => l[i - 58]?) f6
  simp only [cut, List.getElem?_take, List.getElem?_drop] at a b
  rw [if_pos (by omega), show 58 + (i - 58) = i by omega] at a b
  rw [List.getElem?_set_self (by omega)] at a
  rw [b, ← a]

theorem size_bad {c : UInt8} (h32 : c ≠ 32) (hd : ¬ (48 ≤ c.toNat ∧ c.toNat ≤ 57)) (h43 : c.toNat ≠ 43) (h45 : c.toNat ≠ 45) : ∃ tail, (archB es).set (posAt es k + 48) c = archB (es.take k) ++ tail ∧ tailBad tail := by
  have hl := Ent.header_length (ok_at hok hk)
  refine ⟨_, archB_set hok hk (by omega) c, Or.inr (Or.inr ⟨by rw [List.length_append, List.length_set]; omega, ?_⟩)⟩
  rw [List.take_left' (by rw [List.length_set]; exact hl)]
  have f6 := (fields_at (ok_at hok hk)).2.2.2.2.2.2
  generalize es[k].header = h at *
  refine ⟨by unfold cut at f6 ⊢; rw [List.drop_set_of_lt (by omega)]; exact f6, c, rtrim 32 ((h.drop 49).take 9), ?_, hd, h43, h45⟩
  unfold cut
  rw [List.drop_set, if_neg (by omega), Nat.sub_self, List.drop_eq_getElem_cons (i := 48) (by omega), List.set_cons_zero, show (58 - 48) = 9 + 1 from rfl, List.take_succ_cons]
  exact rtrim_cons h32 _
end

theorem magic_bad (es : List Ent) {i : Nat} (hi : i < 8) (c : UInt8) (hc : (archB es)[i]? ≠ some c) : ((archB es).set i c).take 8 ≠ magicB := by
  have hm : magicB.length = 8 := rfl
  unfold archB at hc ⊢
  rw [List.getElem?_append_left (by omega)] at hc
  rw [List.set_append_left _ _ (by omega), List.take_left' (by rw [List.length_set]; exact hm)]
  intro e
  apply hc
  rw [← e, List.getElem?_set_self (by omega)]

/-- An archive without its mark, behind another. -/
theorem archB_join (a b : List Ent) : archB a ++ (archB b).drop 8 = archB (a ++ b) := by
  unfold archB
  rw [List.drop_left' (by rfl)]
  simp [entsB]

theorem posAt_join (a b : List Ent) (k : Nat) : posAt (a ++ b) (a.length + k) + 8 = posAt a a.length + posAt b k := by
  unfold posAt
  rw [List.take_length_add_append, List.take_length, ← archB_join, List.length_append, List.length_drop]
  have : 8 ≤ (archB (b.take k)).length := by simp [archB, magicB]
  omega

/-- An entry d further behind. -/
def Ent.behind (d : Nat) (e : Ent) : Ent := ⟨e.name, e.kind, e.time, e.user, e.group, e.mode, e.data, e.off + d⟩

theorem outs_left (vb : Bool) (a b : List Ent) : ∀ k, k ≤ a.length → outs vb (a ++ b) k = outs vb a k
  | 0, _ => rfl
  | k + 1, h => by
    rw [outs_succ vb (a ++ b) k (by rw [List.length_append]; omega), outs_succ vb a k (by omega), outs_left vb a b k (by omega), List.getElem_append_left (by omega)]
    unfold posAt
    rw [List.take_append_of_le_length (by omega)]

theorem outs_join (vb : Bool) (a b : List Ent) : ∀ k, k ≤ b.length → outs vb (a ++ b) (a.length + k) = outs vb a a.length ++ (outs vb b k).map (Ent.behind (posAt a a.length - 8))
  | 0, _ => by rw [Nat.add_zero, outs_left vb a b _ (Nat.le_refl _)]; simp [outs]
  | k + 1, h => by
    have h8 : 8 ≤ posAt a a.length := by simp [posAt, archB, magicB]
    have hp := posAt_join a b k
    rw [← Nat.add_assoc, outs_succ vb (a ++ b) (a.length + k) (by rw [List.length_append]; omega), outs_succ vb b k (by omega), outs_join vb a b k (by omega), List.map_append, List.append_assoc]
    congr 2
    have e : (a ++ b)[a.length + k]'(by rw [List.length_append]; omega) = b[k] := by rw [List.getElem_append_right (by omega)]; simp
    rw [e]
    show [outE vb _ _] = [Ent.behind _ _]
    simp only [outE, Ent.behind, List.cons.injEq, Ent.mk.injEq, true_and, and_true]
    omega
end Go.Proofs.YtgdghaijjhbegaaDoor
