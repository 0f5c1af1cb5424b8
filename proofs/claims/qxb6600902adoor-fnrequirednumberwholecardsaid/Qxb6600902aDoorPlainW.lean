/-
  PLAIN LAWS, on, for FnRequiredNumberWhole: numerals compared as texts.
-/
import Derived.Test.Qxb6600902aDoorPlain
namespace Go.Proofs.Qxb6600902aDoor

/-- Digit by digit. -/
def lexLe : List UInt8 → List UInt8 → Bool
  | c :: r, d :: t => if c = d then lexLe r t else decide (c.toNat < d.toNat)
  | _, _ => true
/-- zzDigitsAtMost: the shorter text is less; of one length, digit by digit. -/
def atMost (l m : List UInt8) : Bool := if l.length = m.length then lexLe l m else decide (l.length < m.length)

theorem lexLe_val : ∀ (l m : List UInt8) (a : Nat), l.length = m.length → l.all dig = true → m.all dig = true → (lexLe l m = true ↔ valF a l ≤ valF a m)
  | [], [], a, _, _, _ => by simp [lexLe]
  | c :: r, d :: t, a, hl, h1, h2 => by
    simp only [List.all_cons, Bool.and_eq_true] at h1 h2
    have hc := h1.1
    have hd := h2.1
    simp only [dig, Bool.and_eq_true, decide_eq_true_eq] at hc hd
    have hl' : r.length = t.length := by simpa using hl
    simp only [lexLe]
    by_cases e : c = d
    · subst e
      rw [if_pos rfl, valF_cons, valF_cons]
      exact lexLe_val r t _ hl' h1.2 h2.2
    · rw [if_neg e, decide_eq_true_eq, valF_cons, valF_cons]
      have hne : c.toNat ≠ d.toNat := fun h => e (UInt8.toNat_inj.1 h)
      have u1 := valF_hi r (a * 10 + (c.toNat - 48)) h1.2
      have u2 := valF_hi t (a * 10 + (d.toNat - 48)) h2.2
      have v1 := valF_lo r (a * 10 + (c.toNat - 48))
      have v2 := valF_lo t (a * 10 + (d.toNat - 48))
      rw [hl'] at u1 v1
      constructor
      · intro hlt
        have := Nat.mul_le_mul_right (10 ^ t.length) (show a * 10 + (c.toNat - 48) + 1 ≤ a * 10 + (d.toNat - 48) by omega)
        omega
      · intro hle
        rcases Nat.lt_or_ge c.toNat d.toNat with h | h
        · exact h
        · have := Nat.mul_le_mul_right (10 ^ t.length) (show a * 10 + (d.toNat - 48) + 1 ≤ a * 10 + (c.toNat - 48) by omega)
          omega

theorem canon_parts {l : List UInt8} (h : canon l = true) : l ≠ [] ∧ l.all dig = true ∧ lead l = false := by
  unfold canon at h
  simp only [Bool.and_eq_true, Bool.not_eq_true'] at h
  refine ⟨?_, h.2.1, h.2.2⟩
  rintro rfl
  simp at h

/-- A canonical numeral of n digits, n > 1, is at least 10^(n-1). -/
theorem canon_lo {l : List UInt8} (h : canon l = true) (hl : 2 ≤ l.length) : 10 ^ (l.length - 1) ≤ valF 0 l := by
  obtain ⟨_, hd, hlead⟩ := canon_parts h
  cases l with
  | nil => simp at hl
  | cons c r =>
    simp only [List.all_cons, Bool.and_eq_true] at hd
    have hc := hd.1
    simp only [dig, Bool.and_eq_true, decide_eq_true_eq] at hc
    have hne : c ≠ 48 := by
      rintro rfl
      unfold lead at hlead
      rw [decide_eq_true (show 1 < (48 :: r).length by omega)] at hlead
      simp at hlead
    have hn : c.toNat ≠ 48 := fun e => hne (UInt8.toNat_inj.1 (by simpa using e))
    have := valF_lo r (0 * 10 + (c.toNat - 48))
    rw [valF_cons]
    have h2 := Nat.mul_le_mul_right (10 ^ r.length) (show 1 ≤ 0 * 10 + (c.toNat - 48) by omega)
    simp only [List.length_cons, Nat.add_sub_cancel]
    omega

theorem IsDec.canon {x : Nat} {l : List UInt8} (h : IsDec x l) : canon l = true := canon_of h.ne h.dig h.lead

/-- Two canonical numerals compare as their numbers do. -/
theorem atMost_val {l m : List UInt8} (h1 : canon l = true) (h2 : canon m = true) : atMost l m = true ↔ valF 0 l ≤ valF 0 m := by
  obtain ⟨n1, d1, _⟩ := canon_parts h1
  obtain ⟨n2, d2, _⟩ := canon_parts h2
  have p1 : 1 ≤ l.length := by cases l with
    | nil => exact absurd rfl n1
    | cons => simp
  have p2 : 1 ≤ m.length := by cases m with
    | nil => exact absurd rfl n2
    | cons => simp
  have u1 := valF_hi l 0 d1
  have u2 := valF_hi m 0 d2
  simp only [Nat.zero_add, Nat.one_mul] at u1 u2
  unfold atMost
  by_cases e : l.length = m.length
  · rw [if_pos e]; exact lexLe_val l m 0 e d1 d2
  · rw [if_neg e, decide_eq_true_eq]
    constructor
    · intro hlt
      have hm := canon_lo h2 (by omega)
      have := Nat.pow_le_pow_right (show 1 ≤ 10 by decide) (show l.length ≤ m.length - 1 by omega)
      omega
    · intro hle
      rcases Nat.lt_or_ge l.length m.length with h | h
      · exact h
      · have hm := canon_lo h1 (by omega)
        have := Nat.pow_le_pow_right (show 1 ≤ 10 by decide) (show m.length ≤ l.length - 1 by omega)
        omega

/-- THE MODEL: what zzNumberModel makes of the text l, m the limit's own numeral. -/
def model (l m : List UInt8) : Option Nat := if canon l = true ∧ atMost l m = true then some (valF 0 l) else none

/-- THE PLAIN LAW: the model and the parse agree. -/
theorem model_pd {l m : List UInt8} {lim : Nat} (hm : IsDec lim m) (hlim : lim ≤ 18446744073709551615) : model l m = if ((pd l).getD 0 : Int) ≤ (lim : Int) then pd l else none := by
  by_cases h1 : canon l = true
  · have ha := atMost_val h1 hm.canon
    rw [hm.val] at ha
    by_cases h2 : valF 0 l ≤ lim
    · have hp : pd l = some (valF 0 l) := if_pos ⟨h1, by omega⟩
      have hq : model l m = some (valF 0 l) := if_pos ⟨h1, ha.2 h2⟩
      rw [hp, hq, if_pos (by simp only [Option.getD_some]; omega)]
    · have hq : model l m = none := if_neg (fun h => h2 (ha.1 h.2))
      by_cases h3 : valF 0 l ≤ 18446744073709551615
      · have hp : pd l = some (valF 0 l) := if_pos ⟨h1, h3⟩
        rw [hp, hq, if_neg (by simp only [Option.getD_some]; omega)]
      · have hp : pd l = none := if_neg (fun h => h3 h.2)
        rw [hp, hq]; simp
  · have hp : pd l = none := if_neg (fun h => h1 h.1)
    have hq : model l m = none := if_neg (fun h => h1 h.1)
    rw [hp, hq]; simp

/-- The head of a text spells no more than the whole. -/
theorem valF_take_le (l : List UInt8) (k : Nat) : valF 0 (l.take k) ≤ valF 0 l := by
  have := valF_append (l.take k) (l.drop k) 0
  rw [List.take_append_drop] at this
  rw [this]
  exact valF_ge _ _

end Go.Proofs.Qxb6600902aDoor
