/-
  PLAIN LAWS for FnRequiredNumberReadsItsDecimal and FnRequiredNumberWhole: decimal numerals as lists of bytes. No Go in sight ('Lib.parseUintB' is the shelf's own plain function for strconv.ParseUint).
-/
import Derived.Lib.ParseIntB
namespace Go.Proofs.Qxb6600902aDoor

/-- A decimal digit. -/
def dig (c : UInt8) : Bool := decide (48 ≤ c.toNat) && decide (c.toNat ≤ 57)
/-- What the digits spell, behind what was spelt before. -/
def stepV (acc : Nat) (c : UInt8) : Nat := acc * 10 + (c.toNat - 48)
def valF (acc : Nat) (l : List UInt8) : Nat := l.foldl stepV acc
theorem valF_nil (acc : Nat) : valF acc [] = acc := by simp only [valF, List.foldl_nil]
theorem valF_cons (acc : Nat) (c : UInt8) (r : List UInt8) : valF acc (c :: r) = valF (acc * 10 + (c.toNat - 48)) r := by simp only [valF, List.foldl_cons, stepV]

theorem valF_ge (l : List UInt8) : ∀ acc : Nat, acc ≤ valF acc l := by
  induction l with
  | nil => intro acc; simp [valF_nil]
  | cons c r ih =>
    intro acc
    simp only [valF_cons]
    generalize c.toNat - 48 = d
    exact Nat.le_trans (by omega) (ih (acc * 10 + d))

theorem valF_append (l m : List UInt8) (acc : Nat) : valF acc (l ++ m) = valF (valF acc l) m := by simp only [valF, List.foldl_append]

theorem valF_lo : ∀ (l : List UInt8) (acc : Nat), acc * 10 ^ l.length ≤ valF acc l
  | [], acc => by simp [valF_nil]
  | c :: r, acc => by
    have := valF_lo r (acc * 10 + (c.toNat - 48))
    simp only [valF_cons, List.length_cons, Nat.pow_succ]
    refine Nat.le_trans ?_ this
    rw [Nat.mul_comm (10 ^ r.length) 10, ← Nat.mul_assoc]
    exact Nat.mul_le_mul_right _ (by omega)

theorem valF_hi : ∀ (l : List UInt8) (acc : Nat), l.all dig = true → valF acc l < (acc + 1) * 10 ^ l.length
  | [], acc, _ => by simp [valF_nil]
  | c :: r, acc, h => by
    simp only [List.all_cons, Bool.and_eq_true] at h
    have hc := h.1
    simp only [dig, Bool.and_eq_true, decide_eq_true_eq] at hc
    have := valF_hi r (acc * 10 + (c.toNat - 48)) h.2
    simp only [valF_cons, List.length_cons, Nat.pow_succ]
    refine Nat.lt_of_lt_of_le this ?_
    rw [Nat.mul_comm (10 ^ r.length) 10, ← Nat.mul_assoc]
    exact Nat.mul_le_mul_right _ (by omega)

/-- The number, where the parse gives one. -/
def okOf (r : Lib.NumEnd Nat) : Option Nat := match r with
  | .ok u => some u
  | _ => none

theorem okOf_parseM : ∀ (l : List UInt8) (acc : Nat), acc ≤ 18446744073709551615 →
    okOf (Lib.parseUintM 18446744073709551615 acc l) = if l.all dig = true ∧ valF acc l ≤ 18446744073709551615 then some (valF acc l) else none
  | [], acc, h => by simp [Lib.parseUintM, okOf, valF_nil, h]
  | c :: r, acc, h => by
    simp only [Lib.parseUintM]
    by_cases hc : 48 ≤ c.toNat ∧ c.toNat ≤ 57
    · have hd : dig c = true := by simp [dig, hc.1, hc.2]
      have hge := valF_ge r (acc * 10 + (c.toNat - 48))
      rw [if_pos hc]
      by_cases h1 : 1844674407370955162 ≤ acc
      · rw [if_pos h1, if_neg (by simp only [valF_cons]; omega)]; rfl
      · rw [if_neg h1]
        by_cases h2 : 18446744073709551615 < acc * 10 + (c.toNat - 48)
        · rw [if_pos h2, if_neg (by simp only [valF_cons]; omega)]; rfl
        · rw [if_neg h2, okOf_parseM r _ (by omega)]
          simp [List.all_cons, hd, valF_cons]
    · have hd : dig c = false := by
        simp only [dig, Bool.and_eq_false_iff, decide_eq_false_iff_not]; omega
      rw [if_neg hc, if_neg (by simp [List.all_cons, hd])]; rfl

theorem okOf_parse (l : List UInt8) : okOf (Lib.parseUintB 64 l) = if (l ≠ [] ∧ l.all dig = true) ∧ valF 0 l ≤ 18446744073709551615 then some (valF 0 l) else none := by
  unfold Lib.parseUintB
  by_cases h : l = []
  · subst h; simp [okOf]
  · rw [if_neg h]
    have := okOf_parseM l 0 (by omega)
    rw [show (2 : Nat) ^ 64 - 1 = 18446744073709551615 from rfl, this]
    simp [h]

/-- A leading nought that is not alone. -/
def lead (l : List UInt8) : Bool := (l.head? == some 48) && decide (1 < l.length)
/-- A canonical numeral. -/
def canon (l : List UInt8) : Bool := !l.isEmpty && (l.all dig && !lead l)
/-- plainDecimal. -/
def pd (l : List UInt8) : Option Nat := if canon l = true ∧ valF 0 l ≤ 18446744073709551615 then some (valF 0 l) else none

theorem pd_ok {l : List UInt8} {u : Nat} (h : okOf (Lib.parseUintB 64 l) = some u) : pd l = if lead l = true then none else some u := by
  rw [okOf_parse] at h
  split at h
  · rename_i hh
    obtain ⟨⟨h1, h2⟩, h3⟩ := hh
    injection h with h
    have he : l.isEmpty = false := by cases l with
      | nil => exact absurd rfl h1
      | cons => rfl
    subst h
    unfold pd canon
    cases hl : lead l <;> simp [he, h2, h3]
  · cases h

theorem pd_no {l : List UInt8} (h : okOf (Lib.parseUintB 64 l) = none) : pd l = none := by
  rw [okOf_parse] at h
  split at h
  · cases h
  · rename_i hh
    unfold pd canon
    refine if_neg fun hx => hh ?_
    obtain ⟨hx, h3⟩ := hx
    simp only [Bool.and_eq_true, Bool.not_eq_true'] at hx
    refine ⟨⟨?_, hx.2.1⟩, h3⟩
    rintro rfl
    simp at hx

theorem ok_ne_nil {l : List UInt8} {u : Nat} (h : okOf (Lib.parseUintB 64 l) = some u) : l ≠ [] ∧ u ≤ 18446744073709551615 := by
  rw [okOf_parse] at h
  split at h
  · rename_i hh
    injection h with h
    exact ⟨hh.1.1, by omega⟩
  · cases h

/-! ### The numeral of a number -/

/-- The k low decimal digits of x, the highest ahead. -/
def digs (x : Nat) : Nat → List UInt8
  | 0 => []
  | k + 1 => UInt8.ofNat (48 + x / 10 ^ k % 10) :: digs x k

theorem digs_length (x : Nat) : ∀ k, (digs x k).length = k
  | 0 => rfl
  | k + 1 => by simp [digs, digs_length x k]

theorem digit_toNat (d : Nat) : (UInt8.ofNat (48 + d % 10)).toNat = 48 + d % 10 := by
  rw [UInt8.toNat_ofNat']
  have : d % 10 < 10 := Nat.mod_lt _ (by decide)
  omega

theorem digs_dig (x : Nat) : ∀ k, (digs x k).all dig = true
  | 0 => rfl
  | k + 1 => by
    have := Nat.mod_lt (x / 10 ^ k) (show 10 > 0 by decide)
    simp only [digs, List.all_cons, digs_dig x k, Bool.and_true, dig, digit_toNat, Bool.and_eq_true, decide_eq_true_eq]
    omega

theorem valF_digs (x : Nat) : ∀ (k acc : Nat), valF acc (digs x k) = acc * 10 ^ k + x % 10 ^ k
  | 0, acc => by simp [digs, valF_nil, Nat.mod_one]
  | k + 1, acc => by
    simp only [digs, valF_cons, digit_toNat]
    rw [valF_digs x k, show 48 + x / 10 ^ k % 10 - 48 = x / 10 ^ k % 10 by omega, Nat.pow_succ, Nat.mod_mul, Nat.add_mul, Nat.mul_comm (10 ^ k) 10, ← Nat.mul_assoc, Nat.mul_comm (10 ^ k) (x / 10 ^ k % 10)]
    omega

/-- l is the decimal numeral of x. -/
def IsDec (x : Nat) (l : List UInt8) : Prop := ∃ k, 1 ≤ k ∧ k ≤ 20 ∧ x < 10 ^ k ∧ (k = 1 ∨ 10 ^ (k - 1) ≤ x) ∧ l = digs x k

theorem IsDec.val {x : Nat} {l : List UInt8} (h : IsDec x l) : valF 0 l = x := by
  obtain ⟨k, _, _, h3, _, rfl⟩ := h
  rw [valF_digs, Nat.mod_eq_of_lt h3]; omega

theorem IsDec.dig {x : Nat} {l : List UInt8} (h : IsDec x l) : l.all dig = true := by
  obtain ⟨k, _, _, _, _, rfl⟩ := h
  exact digs_dig x k

theorem IsDec.ne {x : Nat} {l : List UInt8} (h : IsDec x l) : l ≠ [] := by
  obtain ⟨k, h1, _, _, _, rfl⟩ := h
  intro e
  have := congrArg List.length e
  rw [digs_length] at this
  simp at this
  omega

theorem IsDec.len {x : Nat} {l : List UInt8} (h : IsDec x l) : 1 ≤ l.length ∧ l.length ≤ 20 := by
  obtain ⟨k, h1, h2, _, _, rfl⟩ := h
  rw [digs_length]; exact ⟨h1, h2⟩

theorem IsDec.lead {x : Nat} {l : List UInt8} (h : IsDec x l) : lead l = false := by
  obtain ⟨k, h1, h2, h3, h4, rfl⟩ := h
  unfold Qxb6600902aDoor.lead
  rw [digs_length]
  rcases h4 with rfl | h4
  · simp
  obtain ⟨j, rfl⟩ : ∃ j, k = j + 1 := ⟨k - 1, by omega⟩
  simp only [Nat.add_sub_cancel] at h4
  have e1 : 1 ≤ x / 10 ^ j := by
    rw [Nat.le_div_iff_mul_le (Nat.pow_pos (by decide))]; omega
  have e2 : x / 10 ^ j < 10 := by
    rw [Nat.div_lt_iff_lt_mul (Nat.pow_pos (by decide))]
    rw [Nat.pow_succ] at h3
    omega
  have e3 : (digs x (j + 1)).head? = some (UInt8.ofNat (48 + x / 10 ^ j % 10)) := rfl
  rw [e3]
  have e4 : UInt8.ofNat (48 + x / 10 ^ j % 10) ≠ 48 := by
    intro e
    have := congrArg UInt8.toNat e
    rw [digit_toNat, Nat.mod_eq_of_lt e2] at this
    simp at this
    omega
  rw [show (some (UInt8.ofNat (48 + x / 10 ^ j % 10)) == some (48 : UInt8)) = false from beq_eq_false_iff_ne.2 (fun e => e4 (Option.some.inj e))]
  rfl

theorem canon_of {l : List UInt8} (h1 : l ≠ []) (h2 : l.all dig = true) (h3 : lead l = false) : canon l = true := by
  unfold canon
  cases l with
  | nil => exact absurd rfl h1
  | cons c r => simp only [List.isEmpty_cons, Bool.not_false, h2, h3, Bool.and_self]

theorem IsDec.pd {x : Nat} {l : List UInt8} (h : IsDec x l) (hx : x ≤ 18446744073709551615) : pd l = some x := by
  unfold Qxb6600902aDoor.pd
  rw [if_pos ⟨canon_of h.ne h.dig h.lead, by rw [h.val]; exact hx⟩, h.val]

theorem IsDec.pd_nought {x : Nat} {l : List UInt8} (h : IsDec x l) : Qxb6600902aDoor.pd (48 :: l) = none := by
  unfold Qxb6600902aDoor.pd
  refine if_neg fun hx => ?_
  have hl : Qxb6600902aDoor.lead (48 :: l) = true := by
    have := h.len
    simp [Qxb6600902aDoor.lead]
    omega
  simp [canon, hl] at hx

theorem pd_plus (l : List UInt8) : pd (43 :: l) = none := by
  unfold pd
  refine if_neg fun hx => ?_
  have : dig 43 = false := by decide
  simp [canon, List.all_cons, this] at hx

end Go.Proofs.Qxb6600902aDoor
