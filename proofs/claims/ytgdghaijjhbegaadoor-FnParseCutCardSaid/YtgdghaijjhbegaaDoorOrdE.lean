/- A statement that draws its order, whose last operation writes what its loads read: the loads are taken first as long as something is still to come. -/
import Derived.Test.YtgdghaijjhbegaaDoorProg
import Derived.Deep.RegionHeld
namespace Go.Proofs.YtgdghaijjhbegaaDoor

section
variable {P : Program} {ops : Array Oper} {Q : Exit → Act → World → Prop} {md : Region.Mode} {S : World → Prop} {z : Nat}

/-- Any order; S holds behind each operation but number z. -/
def wpAnyE (P : Program) (md : Region.Mode) (ops : Array Oper) (Q : Exit → Act → World → Prop) (S : World → Prop) (z : Nat) : Nat → Array Bool → Act → World → Prop
  | 0, listed, a, w => Region.ready md ops listed = [] ∧ Q .normal a w
  | n + 1, listed, a, w => (Region.ready md ops listed = [] → Q .normal a w) ∧
    ∀ i ∈ Region.ready md ops listed, wpOp P ops Q i (fun a' w' => (i ≠ z → S w') ∧ wpAnyE P md ops Q S z n (listed.setIfInBounds i true) a' w') a w

theorem wpAny_of_E (n : Nat) : ∀ (listed : Array Bool) (a : Act) (w : World), wpAnyE P md ops Q S z n listed a w → wpAny P md ops Q n listed a w := by
  induction n with
  | zero => exact fun _ _ _ h => h
  | succ n ih => exact fun _ _ _ h => ⟨h.1, fun i hi => wpOp_mono (fun _ _ k => ih _ _ _ k.2) (h.2 i hi)⟩

/-- Operation z waits for operation i. -/
def waits (md : Region.Mode) (ops : Array Oper) (z i : Nat) : Bool := match ops[z]? with
  | some x => x.after.any fun e => Region.binds md e && e.on == i
  | none => false

theorem wpAnyE_first {i : Nat} {o : Oper} {v : Value} (hi : ops[i]? = some o) (hsel : ∀ (j : Nat) (x : Oper) cs b, ops[j]? = some x → x.op ≠ .select cs b)
    (hQ : ∀ c a w, Q (.panic c) (a.put o.dst v) w → Q (.panic c) a w) (hz : waits md ops z i = true) (n : Nat) : ∀ (listed : Array Bool) (a : Act) (w : World),
      (∀ j x, ops[j]? = some x → j ≠ i → listed.getD j true = false → (∀ e ∈ x.after, Region.binds md e = true → e.on ≠ i) → o.apart ops x = true) →
      i ∈ Region.ready md ops listed → YieldsIf P ops S o v a → S w →
      wpAnyE P md ops Q S z n (listed.setIfInBounds i true) (a.put o.dst v) w → wpAnyE P md ops Q S z (n + 1) listed a w := by
  induction n with
  | zero =>
    intro listed a w _ hr hy hS H
    refine ⟨fun h0 => absurd (h0 ▸ hr) (List.not_mem_nil), fun j hj => ?_⟩
    rcases Decidable.em (j = i) with rfl | hne
    · exact hy.wpOp hi hS ⟨fun _ => hS, H⟩
    · have := ready_mono hj hne
      rw [H.1] at this
      exact absurd this (List.not_mem_nil)
  | succ n ih =>
    intro listed a w hfree hr hy hS H
    refine ⟨fun h0 => absurd (h0 ▸ hr) (List.not_mem_nil), fun j hj => ?_⟩
    rcases Decidable.em (j = i) with rfl | hne
    · exact hy.wpOp hi hS ⟨fun _ => hS, H⟩
    · obtain ⟨hun, x, hx, hall⟩ := mem_ready.1 hj
      have hwait : ∀ e ∈ x.after, Region.binds md e = true → e.on ≠ i := by
        intro e he hb heq
        have a1 := hall e he hb
        have a0 := (mem_ready.1 hr).1
        rw [heq] at a1
        by_cases hlt : i < listed.size
        · simp [hlt] at a0 a1
          rw [a0] at a1
          cases a1
        · simp [Array.getElem?_eq_none (Nat.le_of_not_lt hlt)] at a1
      have step := wpOp_putIf hx (hfree j x hx hne hun hwait) (fun cs b => hsel i o cs b hi) (fun cs b => hsel j x cs b hx) hQ hy (H.2 j (ready_mono hj hne))
      have still : i ∈ Region.ready md ops (listed.setIfInBounds j true) := ready_mono hr (Ne.symm hne)
      refine wpOp_mono (fun a' w' k => ?_) step
      obtain ⟨k1, k2, k3⟩ := k
      have hjz : j ≠ z := by
        rintro rfl
        unfold waits at hz
        rw [hx] at hz
        obtain ⟨e, he, hb⟩ := Array.any_eq_true'.1 hz
        simp only [Bool.and_eq_true, beq_iff_eq] at hb
        exact hwait e he hb.1 hb.2
      have hS' : S w' := k2 hjz
      refine ⟨fun _ => hS', ih _ a' w' (fun m y hy' hmi hm hno => hfree m y hy' hmi ?_ hno) still k1 hS' ?_⟩
      · rcases Decidable.em (j = m) with rfl | hjm
        · exact hun
        · rw [getD_set_ne true hjm] at hm; exact hm
      · rw [Array.setIfInBounds_comm _ _ hne]; exact k3

/-- Number i, taken first. -/
theorem wpAnyE_take {i : Nat} {o : Oper} {v : Value} {n : Nat} {listed : Array Bool} {a : Act} {w : World} (hi : ops[i]? = some o) (hs : Region.noSelect ops = true) (hf : Region.free md ops listed i = true)
    (hr : (Region.ready md ops listed).contains i = true) (hz : waits md ops z i = true) (hQ : ∀ c a w, Q (.panic c) (a.put o.dst v) w → Q (.panic c) a w) (hy : YieldsIf P ops S o v a) (hS : S w)
    (h : wpAnyE P md ops Q S z n (listed.setIfInBounds i true) (a.put o.dst v) w) : wpAnyE P md ops Q S z (n + 1) listed a w :=
  wpAnyE_first hi (Region.noSelect_spec hs) hQ hz n listed a w (Region.free_spec hi hf) (by simpa using hr) hy hS h

/-- Number i, which alone may come up. -/
theorem wpAnyE_only {i : Nat} {o : Oper} {v : Value} {n : Nat} {listed : Array Bool} {a : Act} {w w' : World} (hi : ops[i]? = some o) (hr : Region.ready md ops listed = [i]) (hg : o.guard = none)
    (hrun : (execOp a.eval o).run P w = .ok (.value v) w') (hS : i ≠ z → S w')
    (h : wpAnyE P md ops Q S z n (listed.setIfInBounds i true) (a.put o.dst v) w') : wpAnyE P md ops Q S z (n + 1) listed a w := by
  refine ⟨fun h0 => absurd (hr.symm.trans h0) (by simp), fun j hj => ?_⟩
  rw [hr, List.mem_singleton] at hj
  subst hj
  have hw : Region.wanted o (yielded ops a.tmps) = true := by simp [Region.wanted, hg]
  unfold wpOp
  simp only [hi, hw, if_true]
  refine Or.inl ?_
  unfold Oper.wp
  rw [hrun]
  exact ⟨hS, h⟩

theorem wpAnyE_done {listed : Array Bool} {a : Act} {w : World} (hr : Region.ready md ops listed = []) (h : Q .normal a w) : ∀ n, wpAnyE P md ops Q S z n listed a w
  | 0 => ⟨hr, h⟩
  | _ + 1 => ⟨fun _ => h, by rw [hr]; simp⟩

theorem wp_region_E (S : World → Prop) (z : Nat) {id : Nat} {a : Act} {w : World} (hm : P.follows .mixedOrders = true) (h : wpAnyE P .any ops Q S z ops.size (Array.replicate ops.size false) a w.drew) : (Code.region id ops true).wp P Q a w :=
  wp_region_any hm (wpAny_of_E _ _ _ _ h)
end
end Go.Proofs.YtgdghaijjhbegaaDoor

/- Many operations taken first, one behind the other. -/
namespace Go.Proofs.YtgdghaijjhbegaaDoor

section
variable {P : Program} {ops : Array Oper} {Q : Exit → Act → World → Prop} {md : Region.Mode} {S : World → Prop} {z : Nat}

/-- The operations of the list may be taken first, in this order. -/
def takesB (md : Region.Mode) (ops : Array Oper) (z : Nat) : List Nat → Array Bool → Bool
  | [], _ => true
  | i :: is, l => Region.free md ops l i && ((Region.ready md ops l).contains i && (waits md ops z i && takesB md ops z is (l.setIfInBounds i true)))

/-- What is listed behind them. -/
def setsB : List Nat → Array Bool → Array Bool
  | [], l => l
  | i :: is, l => setsB is (l.setIfInBounds i true)

/-- Each of them yields a value where it comes up. -/
def YAll (P : Program) (ops : Array Oper) (S : World → Prop) (K : Act → Prop) : List Nat → Act → Prop
  | [], a => K a
  | i :: is, a => ∃ o v, ops[i]? = some o ∧ YieldsIf P ops S o v a ∧ YAll P ops S K is (a.put o.dst v)

theorem YAll.cons {K : Act → Prop} {i : Nat} {is : List Nat} {a : Act} {o : Oper} {v : Value} (d : Nat) (ho : ops[i]? = some o) (hd : o.dst = some d) (hg : o.guard = none) (hy : ∀ w, S w → (execOp a.eval o).run P w = .ok (.value v) w)
    (h : YAll P ops S K is (a.put (some d) v)) : YAll P ops S K (i :: is) a :=
  ⟨o, v, ho, Or.inl ⟨by simp [Region.wanted, hg], hy⟩, by rw [hd]; exact h⟩

theorem wpAnyE_takes (hs : Region.noSelect ops = true) (hQ : ∀ c a (d : Nat) v w, Q (.panic c) (a.put (some d) v) w → Q (.panic c) a w) (w : World) (hS : S w) (n : Nat) :
    ∀ (is : List Nat) (listed : Array Bool) (a : Act), takesB md ops z is listed = true → YAll P ops S (fun a' => wpAnyE P md ops Q S z n (setsB is listed) a' w) is a →
      wpAnyE P md ops Q S z (n + is.length) listed a w
  | [], _, _, _, h => h
  | i :: is, l, a, hb, h => by
    simp only [takesB, Bool.and_eq_true] at hb
    obtain ⟨h1, h2, h3, h4⟩ := hb
    obtain ⟨o, v, ho, hy, hr⟩ := h
    refine wpAnyE_take ho hs h1 h2 h3 (fun c a w h => ?_) hy hS (wpAnyE_takes hs hQ w hS n is _ _ h4 hr)
    revert h
    cases o.dst with
    | none => exact id
    | some d => exact hQ c a d v w

/-- Number i, which alone may come up, and gives no value. -/
theorem wpAnyE_skip {i : Nat} {o : Oper} {n : Nat} {listed : Array Bool} {a : Act} {w w' : World} (hi : ops[i]? = some o) (hr : Region.ready md ops listed = [i]) (hg : o.guard = none) (hd : o.dst = none)
    (hrun : (execOp a.eval o).run P w = .ok .skip w') (hS : i ≠ z → S w')
    (h : wpAnyE P md ops Q S z n (listed.setIfInBounds i true) a w') : wpAnyE P md ops Q S z (n + 1) listed a w := by
  refine ⟨fun h0 => absurd (hr.symm.trans h0) (by simp), fun j hj => ?_⟩
  rw [hr, List.mem_singleton] at hj
  subst hj
  have hw : Region.wanted o (yielded ops a.tmps) = true := by simp [Region.wanted, hg]
  unfold wpOp
  simp only [hi, hw, if_true]
  refine Or.inl ?_
  unfold Oper.wp
  rw [hrun, Oper.upon_skip, hd]
  exact ⟨hS, h⟩

/-- The operand of a temporary behind a put. -/
theorem eval_put_same (a : Act) (d n : Nat) (v : Value) (hn : a.tmps.size = n) (h : d < n) : (a.put (some d) v).eval (.tmp d) = v := by
  simp [Act.put, Act.eval, hn, h]
theorem eval_put_ne (a : Act) (d j : Nat) (v : Value) (h : d ≠ j) : (a.put (some d) v).eval (.tmp j) = a.eval (.tmp j) := by
  simp [Act.put, Act.eval, Array.getElem?_setIfInBounds_ne h]
theorem size_put (a : Act) (d : Nat) (v : Value) : (a.put (some d) v).tmps.size = a.tmps.size := by simp [Act.put]
end
end Go.Proofs.YtgdghaijjhbegaaDoor
