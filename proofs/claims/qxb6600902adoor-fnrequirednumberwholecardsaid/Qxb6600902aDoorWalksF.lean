/-
  THE WALKS, on: zzCanonicalDecimal (26), zzDigitsAtMost (27), zzDigitsValue (28).
-/
import Derived.Test.Qxb6600902aDoorWalksB
import Derived.Test.Qxb6600902aDoorPlainW
import Derived.WalkKit
import Derived.WalkSpells
import Derived.Deep.QuietTactic
import Derived.BigQuiet
namespace Go.Proofs.Qxb6600902aDoor
open Go.RowKit

theorem take_snoc (s : ByteArray) (k : Nat) (h : k < s.size) : s.data.toList.take (k + 1) = s.data.toList.take k ++ [s[k]] := by
  rw [List.take_succ_eq_append_getElem (by simpa using h)]; rfl
theorem drop_cons (s : ByteArray) (k : Nat) (h : k < s.size) : s.data.toList.drop k = s[k] :: s.data.toList.drop (k + 1) := by
  rw [List.drop_eq_getElem_cons (by simpa using h)]; rfl
theorem get_mem (s : ByteArray) (k : Nat) (h : k < s.size) : s[k] ∈ s.data.toList := by
  have : s[k] = s.data.toList[k]'(by simpa using h) := rfl
  rw [this]; exact List.getElem_mem _

theorem all_step {s : ByteArray} {k : Nat} (hk : k < s.size) (h : (s.data.toList.take k).all dig = true) (h1 : ¬ ((s[k].toNat : Nat) : Int) < 48) (h2 : ¬ (57 : Int) < ((s[k].toNat : Nat) : Int)) : (s.data.toList.take (k + 1)).all dig = true := by
  rw [take_snoc s k hk, List.all_append, h]
  simp only [List.all_cons, List.all_nil, Bool.and_true, Bool.true_and, dig, Bool.and_eq_true, decide_eq_true_eq]
  omega
theorem all_fall {s : ByteArray} {k : Nat} (hk : k < s.size) (h : ((s[k].toNat : Nat) : Int) < 48 ∨ (57 : Int) < ((s[k].toNat : Nat) : Int)) : canon s.data.toList = false := by
  have h1 : s.data.toList.all dig = false := by
    rw [List.all_eq_false]
    refine ⟨s[k], get_mem s k hk, ?_⟩
    simp only [dig, Bool.and_eq_true, decide_eq_true_eq]
    omega
  unfold canon
  rw [h1]; simp

theorem canon_all {s : ByteArray} {k : Nat} (hk : ¬ k < s.size) (h0 : 0 < s.size) (h : (s.data.toList.take k).all dig = true) : canon s.data.toList = !lead s.data.toList := by
  rw [List.take_of_length_le (by have : s.data.toList.length = s.size := rfl; omega)] at h
  unfold canon
  have hne : s.data.toList.isEmpty = false := by
    cases he : s.data.toList with
    | nil =>
      have : s.data.toList.length = s.size := rfl
      rw [he] at this
      simp at this
      omega
    | cons => rfl
  rw [h, hne]; simp

theorem canonical (s : ByteArray) (w : World) (hs : s.size ≤ 9223372036854775807) :
    Calls Tryd.prog 26 #[.string s] w fun e w' => e = .returned (.bool (canon s.data.toList)) ∧ w' = w := by
  by_cases h0 : s.size = 0
  · have hc : canon s.data.toList = false := by
      have : s.data.toList = [] := List.eq_nil_of_length_eq_zero h0
      rw [this]; rfl
    rw [hc]
    have hz : ((s.size : Int) == 0) = true := by rw [beq_iff_eq]; omega
    clear hc h0
    go_enter Tryd.func26, Tryd.ntmps26
    go_wp2
    go_ret
    exact ⟨rfl, rfl⟩
  have hz : ((s.size : Int) == 0) = false := by rw [beq_eq_false_iff_ne]; omega
  have hpos : 0 < s.size := by omega
  clear h0
  go_enter Tryd.func26, Tryd.ntmps26
  go_wp2
  go_loop [3] (fun i => ∃ k : Nat, k ≤ s.size ∧ i = .int .i64 k ∧ Hid ((s.data.toList.take k).all dig = true)) (fun i => s.size - (intOf i).toNat)
  case atStart => exact ⟨0, Nat.zero_le _, rfl, rfl⟩
  case round =>
    obtain ⟨k, hk, rfl, hall⟩ := hrel
    by_cases hlt : k < s.size
    · go_wp2
      · have hc := all_fall hlt (by assumption)
        go_ret
        exact ⟨by rw [hc]; rfl, rfl⟩
      · have hc : 48 ≤ ((s[k].toNat : Nat) : Int) ∧ ((s[k].toNat : Nat) : Int) ≤ 57 := by assumption
        have ha := all_step hlt hall.out (by omega) (by omega)
        go_round
        case rel => exact ⟨k + 1, by omega, by go_num, ha⟩
        case measure => simp [intOf]; omega
      · have hc := all_fall hlt (.inl (by assumption))
        go_ret
        exact ⟨by rw [hc]; rfl, rfl⟩
    · have hca : Hid (canon s.data.toList = !lead s.data.toList) := canon_all hlt hpos hall.out
      go_wp2
      · have h48 : ((s[0].toNat : Nat) : Int) = 48 := by assumption
        have hl : lead s.data.toList = decide ((1 : Int) < (s.size : Int)) := by
          by_cases h1 : (1 : Int) < (s.size : Int)
          · rw [lead_yes s hpos h48 h1, decide_eq_true h1]
          · rw [lead_short s (by omega), decide_eq_false h1]
        go_ret
        exact ⟨by rw [hca.out, hl]; rfl, rfl⟩
      · have h48 : ¬ ((s[0].toNat : Nat) : Int) = 48 := by assumption
        go_ret
        exact ⟨by rw [hca.out, lead_other s hpos h48]; rfl, rfl⟩

theorem lex_drop {s t : ByteArray} {k : Nat} (h1 : k < s.size) (h2 : k < t.size) :
    lexLe (s.data.toList.drop k) (t.data.toList.drop k) = if s[k] = t[k] then lexLe (s.data.toList.drop (k + 1)) (t.data.toList.drop (k + 1)) else decide (s[k].toNat < t[k].toNat) := by
  rw [drop_cons s k h1, drop_cons t k h2, lexLe]

set_option maxHeartbeats 1000000 in
theorem digitsAtMost (s t : ByteArray) (w : World) (_hs : s.size ≤ 9223372036854775807) (ht : t.size ≤ 9223372036854775807) :
    Calls Tryd.prog 27 #[.string s, .string t] w fun e w' => e = .returned (.bool (atMost s.data.toList t.data.toList)) ∧ Below w.heap.size w w' := by
  by_cases hne : s.size = t.size
  · have hA : Hid (atMost s.data.toList t.data.toList = lexLe s.data.toList t.data.toList) := if_pos hne
    have hq : ((s.size : Int) != (t.size : Int)) = false := by rw [bne_eq_false_iff_eq]; omega
    have hle : s.size ≤ t.size := by omega
    clear hne
    go_enter Tryd.func27, Tryd.ntmps27
    go_wp2
    go_loopw [5] (fun i wr => ∃ k : Nat, k ≤ s.size ∧ i = .int .i64 k ∧ Hid (lexLe s.data.toList t.data.toList = lexLe (s.data.toList.drop k) (t.data.toList.drop k)) ∧ Below w.heap.size w wr) (fun i _ => s.size - (intOf i).toNat)
    case atStart => exact ⟨0, Nat.zero_le _, rfl, rfl, Below.refl _ _⟩
    case round =>
      obtain ⟨k, hk, rfl, hlex, hbel⟩ := hrel
      by_cases hlt : k < s.size
      · have hlt2 : k < t.size := by omega
        have hi1 : (k : Int) < (s.size : Int) := by omega
        have hi2 : (k : Int) < (t.size : Int) := by omega
        have hstep : Hid (lexLe (s.data.toList.drop k) (t.data.toList.drop k) = if s[k] = t[k] then lexLe (s.data.toList.drop (k + 1)) (t.data.toList.drop (k + 1)) else decide (s[k].toNat < t[k].toNat)) := lex_drop hlt hlt2
        go_wp2
        go_quiet (fail)
        go_wp2
        · have hne : (((s[k].toNat : Nat) : Int) != ((t[k].toNat : Nat) : Int)) = true := by assumption
          have hn : ¬ s[k] = t[k] := by
            intro e
            rw [e] at hne
            simp at hne
          have hr : atMost s.data.toList t.data.toList = decide (s[k].toNat < t[k].toNat) := by rw [hA.out, hlex.out, hstep.out, if_neg hn]
          have HR : Hid (atMost s.data.toList t.data.toList = decide (s[k].toNat < t[k].toNat)) := hr
          clear hr hn
          go_quiet (fail)
          go_wp2
          go_ret
          exact ⟨by rw [HR.out]; rfl, hbel.trans ⟨rfl, rfl, rfl, Nat.le_refl _, fun _ _ => rfl⟩⟩
        · have hne : (((s[k].toNat : Nat) : Int) != ((t[k].toNat : Nat) : Int)) = false := by assumption
          have hn : s[k] = t[k] := by
            rw [bne_eq_false_iff_eq] at hne
            exact UInt8.toNat_inj.1 (by omega)
          have hr : lexLe s.data.toList t.data.toList = lexLe (s.data.toList.drop (k + 1)) (t.data.toList.drop (k + 1)) := by rw [hlex.out, hstep.out, if_pos hn]
          go_roundw
          case rel => exact ⟨k + 1, by omega, by go_num, hr, hbel.trans ⟨rfl, rfl, rfl, Nat.le_refl _, fun _ _ => rfl⟩⟩
          case measure => simp [intOf]; omega
      · have hr : atMost s.data.toList t.data.toList = true := by
          rw [hA.out, hlex.out, List.drop_eq_nil_of_le (by have : s.data.toList.length = s.size := rfl; omega)]
          simp [lexLe]
        have HR : Hid (atMost s.data.toList t.data.toList = true) := hr
        clear hr
        go_wp2
        go_ret
        exact ⟨by rw [HR.out]; rfl, hbel⟩
  · have hA : atMost s.data.toList t.data.toList = decide (s.size < t.size) := if_neg hne
    rw [hA]
    have hq : ((s.size : Int) != (t.size : Int)) = true := by rw [bne_iff_ne]; omega
    clear hne hA
    go_enter Tryd.func27, Tryd.ntmps27
    go_wp2
    go_ret
    exact ⟨rfl, Below.refl _ _⟩

/-- A numeral whose number a uint64 holds. -/
theorem digitsValue (s : ByteArray) (w : World) (hs : s.size ≤ 9223372036854775807) (hd : s.data.toList.all dig = true) (hv : valF 0 s.data.toList ≤ 18446744073709551615) :
    Calls Tryd.prog 28 #[.string s] w fun e w' => e = .returned (.int .u64 ((valF 0 s.data.toList : Nat) : Int)) ∧ w' = w := by
  have HD : Hid (s.data.toList.all dig = true) := hd
  clear hd
  go_enter Tryd.func28, Tryd.ntmps28
  go_wp2
  go_loop [3, 4] (fun n i => ∃ (k v : Nat), k ≤ s.size ∧ i = .int .i64 k ∧ n = .int .u64 (v : Int) ∧ Hid (v = valF 0 (s.data.toList.take k))) (fun _ i => s.size - (intOf i).toNat)
  case atStart => exact ⟨0, 0, Nat.zero_le _, rfl, rfl, rfl⟩
  case round =>
    obtain ⟨k, v, hk, rfl, rfl, hval⟩ := hrel
    by_cases hlt : k < s.size
    · have hm := List.all_eq_true.1 HD.out _ (get_mem s k hlt)
      simp only [dig, Bool.and_eq_true, decide_eq_true_eq] at hm
      have h1 := valF_take_le s.data.toList (k + 1)
      rw [take_snoc s k hlt, valF_append, ← hval.out, valF_cons, valF_nil] at h1
      have HN : Hid (v * 10 + (s[k].toNat - 48) = valF 0 (s.data.toList.take (k + 1))) := by rw [Hid, take_snoc s k hlt, valF_append, ← hval.out, valF_cons, valF_nil]
      have b1 : (48 : Int) ≤ ((s[k].toNat : Nat) : Int) := by omega
      have b2 : ((s[k].toNat : Nat) : Int) ≤ 57 := by omega
      have b3 : (v : Int) * 10 + (((s[k].toNat : Nat) : Int) - 48) ≤ 18446744073709551615 := by omega
      clear hm h1
      go_wp2
      go_round
      case rel => exact ⟨k + 1, v * 10 + (s[k].toNat - 48), by omega, by go_num, by go_num, HN⟩
      case measure => simp [intOf]; omega
    · have hr : valF 0 s.data.toList = v := by
        rw [hval.out, List.take_of_length_le (by have : s.data.toList.length = s.size := rfl; omega)]
      have HR : Hid (valF 0 s.data.toList = v) := hr
      clear hr
      go_wp2
      go_ret
      exact ⟨by rw [HR.out]; rfl, rfl⟩

end Go.Proofs.Qxb6600902aDoor
