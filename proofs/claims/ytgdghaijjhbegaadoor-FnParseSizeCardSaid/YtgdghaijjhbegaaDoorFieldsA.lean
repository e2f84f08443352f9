/- Plain laws: what the fields of an entry's header read as. -/
import Derived.Test.YtgdghaijjhbegaaDoorSpecD
import Derived.Lib.ParseIntBCases
namespace Go.Proofs.YtgdghaijjhbegaaDoor
open Go.RowKit
set_option maxRecDepth 100000

theorem digits_eq (base n : Nat) (hb : 2 ≤ base) : digits base n = (if n < base then [] else digits base (n / base)) ++ [dch (n % base)] := by
  rw [digits]
  by_cases h : n < base
  · rw [if_pos (Or.inl h), if_pos h, Nat.mod_eq_of_lt h]; rfl
  · rw [if_neg (by omega), if_neg h]

theorem digits_last (base n : Nat) (hb : 2 ≤ base) (hb2 : base ≤ 10) : ∃ l d, digits base n = l ++ [dch d] ∧ d < 10 :=
  ⟨_, _, digits_eq base n hb, by have := Nat.mod_lt n (show base > 0 by omega); omega⟩

theorem dropWhile_blanks (n : Nat) (l : List UInt8) : (List.replicate n (32 : UInt8) ++ l).dropWhile (· == 32) = l.dropWhile (· == 32) := by
  induction n with
  | zero => simp
  | succ n ih => simp [List.replicate_succ, ih]

theorem rtrim_blanks (n : Nat) (xs : List UInt8) : rtrim 32 (xs ++ List.replicate n 32) = rtrim 32 xs := by
  unfold rtrim
  rw [List.reverse_append, List.reverse_replicate, dropWhile_blanks]

theorem rtrim_digits (base n m : Nat) (hb : 2 ≤ base) (hb2 : base ≤ 10) : rtrim 32 (padTo m (digits base n)) = digits base n := by
  obtain ⟨l, d, e, hd⟩ := digits_last base n hb hb2
  unfold padTo
  rw [rtrim_blanks, e]
  refine rtrim_snoc_ne _ _ _ ?_
  intro h
  have := dch_toNat d (by omega)
  rw [h] at this
  simp at this
  omega

/-- Decimal digits behind others. -/
theorem parseUintM_snoc (M : Nat) (c : UInt8) : ∀ (l : List UInt8) (acc a : Nat), Lib.parseUintM M acc l = .ok a → 48 ≤ c.toNat → c.toNat ≤ 57 → a < 1844674407370955162 → a * 10 + (c.toNat - 48) ≤ M →
    Lib.parseUintM M acc (l ++ [c]) = .ok (a * 10 + (c.toNat - 48))
  | [], acc, a, h, h1, h2, h3, h4 => by
    simp only [Lib.parseUintM] at h
    injection h with h
    subst h
    simp only [List.nil_append, Lib.parseUintM]
    rw [if_pos ⟨h1, h2⟩, if_neg (by omega), if_neg (by omega)]
  | x :: l, acc, a, h, h1, h2, h3, h4 => by
    simp only [Lib.parseUintM, List.cons_append] at h ⊢
    split at h
    · rename_i hx
      rw [if_pos hx]
      split at h
      · cases h
      · rename_i hy
        rw [if_neg hy]
        split at h
        · cases h
        · rename_i hz
          rw [if_neg hz]
          exact parseUintM_snoc M c l _ a h h1 h2 h3 h4
    · cases h

theorem parseUintM_digits (M n : Nat) (hM : n ≤ M) (hn : n < 1000000000000000) : Lib.parseUintM M 0 (digits 10 n) = .ok n := by
  induction n using Nat.strongRecOn with
  | _ n ih =>
    rw [digits_eq 10 n (by omega)]
    have hd := dch_toNat (n % 10) (by omega)
    by_cases h : n < 10
    · rw [if_pos h]
      have := parseUintM_snoc M (dch (n % 10)) [] 0 0 rfl (by omega) (by omega) (by omega) (by omega)
      rw [this, hd]
      congr 1; omega
    · rw [if_neg h]
      have := parseUintM_snoc M (dch (n % 10)) _ 0 (n / 10) (ih (n / 10) (by omega) (by omega) (by omega)) (by omega) (by omega) (by omega) (by omega)
      rw [this, hd]
      congr 1; omega

theorem digits_cons (base n : Nat) (hb : 2 ≤ base) (hb2 : base ≤ 10) : ∃ d l, digits base n = dch d :: l ∧ d < base := by
  induction n using Nat.strongRecOn with
  | _ n ih =>
    rw [digits_eq base n hb]
    by_cases h : n < base
    · rw [if_pos h]
      exact ⟨n % base, [], rfl, Nat.mod_lt _ (by omega)⟩
    · rw [if_neg h]
      obtain ⟨d, l, e, hd⟩ := ih (n / base) (Nat.div_lt_self (by omega) (by omega))
      exact ⟨d, l ++ [dch (n % base)], by rw [e]; rfl, hd⟩

theorem parseIntB_digits (B n : Nat) (h1 : n < 2 ^ (B - 1)) (h2 : n ≤ 2 ^ B - 1) (hn : n < 1000000000000000) : Lib.parseIntB B (digits 10 n) = .ok (n : Int) := by
  obtain ⟨d, l, e, hd⟩ := digits_cons 10 n (by omega) (by omega)
  have hq := dch_toNat d (by omega)
  have hu : Lib.parseUintB B (digits 10 n) = .ok n := by
    unfold Lib.parseUintB
    rw [if_neg (by rw [e]; simp)]
    exact parseUintM_digits _ n h2 hn
  rw [e] at hu ⊢
  rw [Lib.parseIntB_plain B _ _ (by omega) (by omega), hu]
  simp only [Lib.signlessC]
  rw [if_neg (by omega)]

theorem parseInt64_digits (n : Nat) (hn : n < 1000000000000000) : Lib.parseIntB 64 (digits 10 n) = .ok (n : Int) :=
  parseIntB_digits 64 n (by omega) (by omega) hn
theorem parseInt32_digits (n : Nat) (hn : n < 1000000000) : Lib.parseIntB 32 (digits 10 n) = .ok (n : Int) :=
  parseIntB_digits 32 n (by omega) (by omega) (by omega)

/-- A text whose first byte is neither a digit nor a sign is no number. -/
theorem parseInt64_bad (c : UInt8) (l : List UInt8) (h : ¬ (48 ≤ c.toNat ∧ c.toNat ≤ 57)) (h43 : c.toNat ≠ 43) (h45 : c.toNat ≠ 45) : Lib.parseIntB 64 (c :: l) = Lib.parseIntB 64 [] := by
  rw [Lib.parseIntB_plain 64 _ _ h43 h45]
  have : Lib.parseUintB 64 (c :: l) = Lib.parseUintB 64 [] := by
    unfold Lib.parseUintB
    rw [if_neg (by simp), if_pos rfl]
    simp only [Lib.parseUintM]
    rw [if_neg h]
  rw [this]; rfl

/-- What octal digits spell. -/
def octV (acc : Nat) (l : List UInt8) : Nat := l.foldl (fun a c => a * 8 + (c.toNat - 48)) acc
theorem octV_snoc (l : List UInt8) (c : UInt8) (acc : Nat) : octV acc (l ++ [c]) = octV acc l * 8 + (c.toNat - 48) := by simp [octV]
theorem octV_ge (l : List UInt8) : ∀ acc, acc ≤ octV acc l := by
  induction l with
  | nil => intro acc; exact Nat.le_refl _
  | cons c l ih => intro acc; exact Nat.le_trans (by omega) (ih (acc * 8 + (c.toNat - 48)))
theorem octV_take_le (l : List UInt8) (k : Nat) : octV 0 (l.take k) ≤ octV 0 l := by
  have h : octV 0 l = octV (octV 0 (l.take k)) (l.drop k) := by
    unfold octV
    rw [← List.foldl_append, List.take_append_drop]
  rw [h]; exact octV_ge _ _
theorem octV_digits (n : Nat) : octV 0 (digits 8 n) = n := by
  induction n using Nat.strongRecOn with
  | _ n ih =>
    rw [digits_eq 8 n (by omega), octV_snoc, dch_toNat _ (by omega)]
    by_cases h : n < 8
    · rw [if_pos h]; simp [octV]; omega
    · rw [if_neg h, ih (n / 8) (by omega)]; omega
/-- Octal digits. -/
def isOct (l : List UInt8) : Prop := ∀ i (h : i < l.length), 48 ≤ l[i].toNat ∧ l[i].toNat ≤ 55
theorem isOct_digits (n : Nat) : isOct (digits 8 n) := by
  have h : ∀ c ∈ digits 8 n, 48 ≤ c.toNat ∧ c.toNat ≤ 55 := by
    induction n using Nat.strongRecOn with
    | _ n ih =>
      rw [digits_eq 8 n (by omega)]
      intro c hc
      rw [List.mem_append] at hc
      rcases hc with hc | hc
      · by_cases h : n < 8
        · rw [if_pos h] at hc; simp at hc
        · rw [if_neg h] at hc; exact ih (n / 8) (by omega) c hc
      · simp only [List.mem_singleton] at hc
        rw [hc, dch_toNat _ (by omega)]; omega
  exact fun i hi => h _ (List.getElem_mem hi)
end Go.Proofs.YtgdghaijjhbegaaDoor

/- Plain laws: the fields of an entry's header, one by one. -/
namespace Go.Proofs.YtgdghaijjhbegaaDoor
open Go.RowKit
set_option maxRecDepth 100000

/-- Bytes from a to b. -/
def cut (h : List UInt8) (a b : Nat) : List UInt8 := (h.drop a).take (b - a)
theorem cut_mid (p x q : List UInt8) (a b : Nat) (ha : p.length = a) (hb : a + x.length = b) : cut (p ++ x ++ q) a b = x := by
  unfold cut
  rw [List.append_assoc, List.drop_left' ha, List.take_left' (by omega)]
theorem cut_length (h : List UInt8) (a b : Nat) (hb : b ≤ h.length) : (cut h a b).length = b - a := by
  unfold cut; rw [List.length_take, List.length_drop]; omega

theorem padTo_len (n : Nat) (xs : List UInt8) (h : xs.length ≤ n) : (padTo n xs).length = n := by rw [padTo_length]; omega

section
variable {nm : List UInt8} {tm us gr md sz : Nat} (h0 : nm.length ≤ 16) (h1 : tm ≤ 999999999999) (h2 : us ≤ 999999) (h3 : gr ≤ 999999) (h4 : md ≤ 16777215) (h5 : sz ≤ 9999999999)
include h0 h1 h2 h3 h4 h5
theorem headerN_lens : (padTo 16 nm).length = 16 ∧ (padTo 12 (digits 10 tm)).length = 12 ∧ (padTo 6 (digits 10 us)).length = 6 ∧ (padTo 6 (digits 10 gr)).length = 6 ∧ (padTo 8 (digits 8 md)).length = 8 ∧ (padTo 10 (digits 10 sz)).length = 10 :=
  ⟨padTo_len _ _ h0, padTo_len _ _ (digits_len_le 10 (by omega) 11 tm (by omega)), padTo_len _ _ (digits_len_le 10 (by omega) 5 us (by omega)), padTo_len _ _ (digits_len_le 10 (by omega) 5 gr (by omega)),
    padTo_len _ _ (digits_len_le 8 (by omega) 7 md (by omega)), padTo_len _ _ (digits_len_le 10 (by omega) 9 sz (by omega))⟩
theorem headerN_name : cut (headerN nm tm us gr md sz) 0 16 = padTo 16 nm := by
  obtain ⟨a0, a1, a2, a3, a4, a5⟩ := headerN_lens h0 h1 h2 h3 h4 h5
  have := cut_mid [] (padTo 16 nm) (padTo 12 (digits 10 tm) ++ padTo 6 (digits 10 us) ++ padTo 6 (digits 10 gr) ++ padTo 8 (digits 8 md) ++ padTo 10 (digits 10 sz) ++ [96, 10]) 0 16 rfl (by rw [a0])
  simpa [headerN] using this
theorem headerN_time : cut (headerN nm tm us gr md sz) 16 28 = padTo 12 (digits 10 tm) := by
  obtain ⟨a0, a1, a2, a3, a4, a5⟩ := headerN_lens h0 h1 h2 h3 h4 h5
  have := cut_mid (padTo 16 nm) (padTo 12 (digits 10 tm)) (padTo 6 (digits 10 us) ++ padTo 6 (digits 10 gr) ++ padTo 8 (digits 8 md) ++ padTo 10 (digits 10 sz) ++ [96, 10]) 16 28 a0 (by rw [a1])
  simpa [headerN] using this
theorem headerN_user : cut (headerN nm tm us gr md sz) 28 34 = padTo 6 (digits 10 us) := by
  obtain ⟨a0, a1, a2, a3, a4, a5⟩ := headerN_lens h0 h1 h2 h3 h4 h5
  have := cut_mid (padTo 16 nm ++ padTo 12 (digits 10 tm)) (padTo 6 (digits 10 us)) (padTo 6 (digits 10 gr) ++ padTo 8 (digits 8 md) ++ padTo 10 (digits 10 sz) ++ [96, 10]) 28 34 (by rw [List.length_append]; omega) (by rw [a2])
  simpa [headerN] using this
theorem headerN_group : cut (headerN nm tm us gr md sz) 34 40 = padTo 6 (digits 10 gr) := by
  obtain ⟨a0, a1, a2, a3, a4, a5⟩ := headerN_lens h0 h1 h2 h3 h4 h5
  have := cut_mid (padTo 16 nm ++ padTo 12 (digits 10 tm) ++ padTo 6 (digits 10 us)) (padTo 6 (digits 10 gr)) (padTo 8 (digits 8 md) ++ padTo 10 (digits 10 sz) ++ [96, 10]) 34 40 (by simp only [List.length_append]; omega) (by rw [a3])
  simpa [headerN] using this
theorem headerN_mode : cut (headerN nm tm us gr md sz) 40 48 = padTo 8 (digits 8 md) := by
  obtain ⟨a0, a1, a2, a3, a4, a5⟩ := headerN_lens h0 h1 h2 h3 h4 h5
  have := cut_mid (padTo 16 nm ++ padTo 12 (digits 10 tm) ++ padTo 6 (digits 10 us) ++ padTo 6 (digits 10 gr)) (padTo 8 (digits 8 md)) (padTo 10 (digits 10 sz) ++ [96, 10]) 40 48 (by simp only [List.length_append]; omega) (by rw [a4])
  simpa [headerN] using this
theorem headerN_size : cut (headerN nm tm us gr md sz) 48 58 = padTo 10 (digits 10 sz) := by
  obtain ⟨a0, a1, a2, a3, a4, a5⟩ := headerN_lens h0 h1 h2 h3 h4 h5
  have := cut_mid (padTo 16 nm ++ padTo 12 (digits 10 tm) ++ padTo 6 (digits 10 us) ++ padTo 6 (digits 10 gr) ++ padTo 8 (digits 8 md)) (padTo 10 (digits 10 sz)) [96, 10] 48 58 (by simp only [List.length_append]; omega) (by rw [a5])
  simpa [headerN] using this
theorem headerN_end : cut (headerN nm tm us gr md sz) 58 60 = [96, 10] := by
  obtain ⟨a0, a1, a2, a3, a4, a5⟩ := headerN_lens h0 h1 h2 h3 h4 h5
  have := cut_mid (padTo 16 nm ++ padTo 12 (digits 10 tm) ++ padTo 6 (digits 10 us) ++ padTo 6 (digits 10 gr) ++ padTo 8 (digits 8 md) ++ padTo 10 (digits 10 sz)) [96, 10] [] 58 60 (by simp only [List.length_append]; omega) rfl
  simpa [headerN] using this
end
end Go.Proofs.YtgdghaijjhbegaaDoor
