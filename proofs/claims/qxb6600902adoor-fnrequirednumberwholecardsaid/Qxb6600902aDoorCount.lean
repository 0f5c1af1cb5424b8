/-
  PLAIN LAWS for the cards: no Go in sight. Names by their index ('N k'), the key s: how many of the first k names are s ('cnt'), where the first one stands ('fst', -1 if nowhere).
-/
namespace Go.Proofs.Qxb6600902aDoor

/-- Two strings are one: as the walk spells it. -/
def eqS (a b : ByteArray) : Bool := a.toList == b.toList

def cnt (N : Nat → ByteArray) (s : ByteArray) : Nat → Nat
  | 0 => 0
  | k + 1 => if eqS (N k) s = true then cnt N s k + 1 else cnt N s k

def fstAt (N : Nat → ByteArray) (s : ByteArray) : Nat → Int
  | 0 => -1
  | k + 1 => if eqS (N k) s = true ∧ fstAt N s k < 0 then (k : Int) else fstAt N s k

/-- The value of the one pair named s among the first k; empty where there is none, or more than one. -/
def pick (N V : Nat → ByteArray) (s : ByteArray) (k : Nat) : ByteArray := if cnt N s k = 1 then V (fstAt N s k).toNat else ByteArray.empty

theorem cnt_le (N : Nat → ByteArray) (s : ByteArray) (k : Nat) : cnt N s k ≤ k := by
  induction k with
  | zero => simp [cnt]
  | succ k ih => simp only [cnt]; split <;> omega

theorem cnt_mono (N : Nat → ByteArray) (s : ByteArray) (j d : Nat) : cnt N s j ≤ cnt N s (j + d) := by
  induction d with
  | zero => simp
  | succ d ih => rw [← Nat.add_assoc]; simp only [cnt]; split <;> omega

theorem cnt_hit {N : Nat → ByteArray} {s : ByteArray} {k : Nat} (h : eqS (N k) s = true) : cnt N s (k + 1) = cnt N s k + 1 := by simp [cnt, h]
theorem cnt_miss {N : Nat → ByteArray} {s : ByteArray} {k : Nat} (h : eqS (N k) s = false) : cnt N s (k + 1) = cnt N s k := by simp [cnt, h]

theorem fst_bd (N : Nat → ByteArray) (s : ByteArray) (k : Nat) : -1 ≤ fstAt N s k ∧ fstAt N s k < (k : Int) := by
  induction k with
  | zero => simp [fstAt]
  | succ k ih => simp only [fstAt]; split <;> omega

theorem fst_neg (N : Nat → ByteArray) (s : ByteArray) (k : Nat) : fstAt N s k < 0 ↔ cnt N s k = 0 := by
  induction k with
  | zero => simp [fstAt, cnt]
  | succ k ih =>
    simp only [fstAt, cnt]
    by_cases h : eqS (N k) s = true
    · simp only [h, true_and, if_true]
      by_cases h2 : fstAt N s k < 0
      · rw [if_pos h2]; omega
      · rw [if_neg h2]; omega
    · rw [if_neg (by simp [h]), if_neg h]; exact ih

theorem fst_miss {N : Nat → ByteArray} {s : ByteArray} {k : Nat} (h : eqS (N k) s = false) : fstAt N s (k + 1) = fstAt N s k := by simp [fstAt, h]
theorem fst_hit {N : Nat → ByteArray} {s : ByteArray} {k : Nat} (h : eqS (N k) s = true) (h2 : fstAt N s k < 0) : fstAt N s (k + 1) = (k : Int) := by simp [fstAt, h, h2]
theorem fst_keep {N : Nat → ByteArray} {s : ByteArray} {k : Nat} (h2 : ¬ fstAt N s k < 0) : fstAt N s (k + 1) = fstAt N s k := by simp [fstAt, h2]

theorem pick_zero (N V : Nat → ByteArray) (s : ByteArray) : pick N V s 0 = ByteArray.empty := by simp [pick, cnt]
theorem pick_none {N V : Nat → ByteArray} {s : ByteArray} {k : Nat} (h : cnt N s k ≠ 1) : pick N V s k = ByteArray.empty := by simp [pick, h]
theorem pick_one {N V : Nat → ByteArray} {s : ByteArray} {k : Nat} (h : cnt N s k = 1) : pick N V s k = V (fstAt N s k).toNat := by simp [pick, h]
theorem pick_miss {N V : Nat → ByteArray} {s : ByteArray} {k : Nat} (h : eqS (N k) s = false) : pick N V s (k + 1) = pick N V s k := by
  simp only [pick, cnt_miss h, fst_miss h]
theorem pick_hit {N V : Nat → ByteArray} {s : ByteArray} {k : Nat} (h : eqS (N k) s = true) (h0 : cnt N s k = 0) : pick N V s (k + 1) = V k := by
  have h2 : fstAt N s k < 0 := (fst_neg N s k).2 h0
  rw [pick_one (by rw [cnt_hit h, h0]), fst_hit h h2]; rfl

end Go.Proofs.Qxb6600902aDoor
