/-
  PLAIN LAWS for the four laws of this seat: bytes and lists of bytes. No Go in sight.
-/
namespace Go.Proofs.Qxb6600927a

/-- A capital ASCII letter to its small one. -/
def low (c : UInt8) : UInt8 := if 65 ≤ c.toNat ∧ c.toNat ≤ 90 then UInt8.ofNat (c.toNat + 32) else c
/-- A small ASCII letter to its capital. -/
def up (c : UInt8) : UInt8 := if 97 ≤ c.toNat ∧ c.toNat ≤ 122 then UInt8.ofNat (c.toNat - 32) else c
/-- A letter, a digit or a hyphen. -/
def host (c : UInt8) : Bool := decide ((97 ≤ c.toNat ∧ c.toNat ≤ 122) ∨ (65 ≤ c.toNat ∧ c.toNat ≤ 90) ∨ (48 ≤ c.toNat ∧ c.toNat ≤ 57) ∨ c.toNat = 45)

theorem low_toNat (c : UInt8) : (low c).toNat = if 65 ≤ c.toNat ∧ c.toNat ≤ 90 then c.toNat + 32 else c.toNat := by
  unfold low
  split
  · rw [UInt8.toNat_ofNat']; omega
  · rfl
theorem up_toNat (c : UInt8) : (up c).toNat = if 97 ≤ c.toNat ∧ c.toNat ≤ 122 then c.toNat - 32 else c.toNat := by
  unfold up
  split
  · rw [UInt8.toNat_ofNat']; omega
  · rfl
theorem low_yes {c : UInt8} (h : 65 ≤ c.toNat ∧ c.toNat ≤ 90) : (low c).toNat = c.toNat + 32 := by rw [low_toNat, if_pos h]
theorem low_no {c : UInt8} (h : ¬ (65 ≤ c.toNat ∧ c.toNat ≤ 90)) : low c = c := if_neg h
theorem up_yes {c : UInt8} (h : 97 ≤ c.toNat ∧ c.toNat ≤ 122) : (up c).toNat = c.toNat - 32 := by rw [up_toNat, if_pos h]
theorem up_no {c : UInt8} (h : ¬ (97 ≤ c.toNat ∧ c.toNat ≤ 122)) : up c = c := if_neg h

theorem low_low (c : UInt8) : low (low c) = low c := by
  refine low_no ?_
  rw [low_toNat]
  split <;> omega

theorem low_fix (c : UInt8) : low c = c ↔ ¬ (65 ≤ c.toNat ∧ c.toNat ≤ 90) := by
  constructor
  · intro h hc
    have := congrArg UInt8.toNat h
    rw [low_yes hc] at this
    omega
  · exact low_no

theorem host_low (c : UInt8) : host (low c) = host c := by
  unfold host
  rw [low_toNat]
  split
  · simp only [decide_eq_decide]; omega
  · rfl
theorem host_up (c : UInt8) : host (up c) = host c := by
  unfold host
  rw [up_toNat]
  split
  · simp only [decide_eq_decide]; omega
  · rfl
theorem low_hyphen (c : UInt8) : low c = 45 ↔ c = 45 := by
  rw [← UInt8.toNat_inj, ← UInt8.toNat_inj, low_toNat]
  have : (45 : UInt8).toNat = 45 := rfl
  split <;> omega
theorem up_hyphen (c : UInt8) : up c = 45 ↔ c = 45 := by
  rw [← UInt8.toNat_inj, ← UInt8.toNat_inj, up_toNat]
  have : (45 : UInt8).toNat = 45 := rfl
  split <;> omega

/-- A text, byte by byte. -/
def mapB (g : UInt8 → UInt8) (s : ByteArray) : ByteArray := ⟨s.data.map g⟩
theorem mapB_size (g : UInt8 → UInt8) (s : ByteArray) : (mapB g s).size = s.size := by
  show (s.data.map g).size = s.data.size
  rw [Array.size_map]
theorem mapB_get (g : UInt8 → UInt8) (s : ByteArray) (k : Nat) (h : k < s.size) : (mapB g s)[k]'(by rw [mapB_size]; exact h) = g s[k] := by
  have h' : k < (s.data.map g).size := by rw [Array.size_map]; exact h
  show (s.data.map g)[k]'h' = g (s.data[k]'h)
  exact Array.getElem_map ..
theorem mapB_mapB (g f : UInt8 → UInt8) (s : ByteArray) : mapB g (mapB f s) = mapB (fun c => g (f c)) s := by
  unfold mapB
  simp only [Array.map_map]
  rfl
theorem fold_fold (s : ByteArray) : mapB low (mapB low s) = mapB low s := by
  rw [mapB_mapB]
  have : (fun c => low (low c)) = low := funext low_low
  rw [this]

/-- Does a capital stand among the bytes? -/
def hasCap (l : List UInt8) : Bool := l.any fun c => decide (65 ≤ c.toNat ∧ c.toNat ≤ 90)

theorem hasCap_fold (s : ByteArray) : hasCap (mapB low s).data.toList = false := by
  unfold hasCap mapB
  simp only [Array.toList_map, List.any_map]
  rw [List.any_eq_false]
  intro c _
  simp only [Function.comp, decide_eq_true_eq]
  rw [low_toNat]
  split <;> omega

theorem fold_same (s : ByteArray) : (mapB low s).data.toList = s.data.toList ↔ hasCap s.data.toList = false := by
  unfold hasCap mapB
  simp only [Array.toList_map]
  rw [List.any_eq_false]
  constructor
  · intro h c hc
    have : ∀ x ∈ s.data.toList, low x = x := by
      have := List.map_inj_left (f := low) (g := id) (l := s.data.toList)
      rw [List.map_id] at this
      exact this.1 h
    simp only [decide_eq_true_eq]
    exact (low_fix c).1 (this c hc)
  · intro h
    have : ∀ x ∈ s.data.toList, low x = id x := fun x hx => low_no (by simpa using h x hx)
    rw [List.map_congr_left this, List.map_id]

/-- A host label: not empty is taken for granted. -/
def label (l : List UInt8) : Bool := (!(l.head? == some 45) && !(l.getLast? == some 45)) && l.all host

theorem label_map {g : UInt8 → UInt8} (h1 : ∀ c, host (g c) = host c) (h2 : ∀ c, g c = 45 ↔ c = 45) (s : ByteArray) : label (mapB g s).data.toList = label s.data.toList := by
  have e : ∀ o : Option UInt8, (o.map g == some 45) = (o == some 45) := by
    intro o
    cases o with
    | none => rfl
    | some c =>
      simp only [Option.map_some]
      rw [Bool.eq_iff_iff, beq_iff_eq, beq_iff_eq, Option.some.injEq, Option.some.injEq]
      exact h2 c
  unfold label mapB
  simp only [Array.toList_map, List.head?_map, List.getLast?_map, List.all_map]
  rw [e, e]
  have : (host ∘ g) = host := funext h1
  rw [this]

end Go.Proofs.Qxb6600927a
