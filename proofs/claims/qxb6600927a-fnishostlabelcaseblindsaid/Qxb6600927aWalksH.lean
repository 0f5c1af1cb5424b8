/-
  THE WALKS: isHostLabel (36), ZZisHostLabel (22), at a label that is not empty.
-/
import Derived.Test.Qxb6600927aWalksA
namespace Go.Proofs.Qxb6600927a
open Go.RowKit

theorem head_of (s : ByteArray) (h0 : 0 < s.size) : s.data.toList.head? = some (s[0]'h0) := by
  cases s with
  | mk d =>
    cases d with
    | mk l =>
      cases l with
      | nil => simp [ByteArray.size] at h0
      | cons c r => rfl
theorem last_of (s : ByteArray) (h0 : s.size - 1 < s.size) : s.data.toList.getLast? = some (s[s.size - 1]'h0) := by
  rw [List.getLast?_eq_getElem?]
  have : s.data.toList.length = s.size := rfl
  rw [this, List.getElem?_eq_getElem (by rw [this]; exact h0)]
  rfl

theorem eq45 {c : UInt8} : (some c == some (45 : UInt8)) = decide (((c.toNat : Nat) : Int) = 45) := by
  rw [Bool.eq_iff_iff, beq_iff_eq, decide_eq_true_eq, Option.some.injEq, ← UInt8.toNat_inj]
  have : (45 : UInt8).toNat = 45 := rfl
  omega

theorem label_head {s : ByteArray} (h0 : 0 < s.size) (h : ((s[0].toNat : Nat) : Int) = 45) : label s.data.toList = false := by
  unfold label
  rw [head_of s h0, eq45, decide_eq_true h]
  simp
theorem label_last {s : ByteArray} (h0 : s.size - 1 < s.size) (h : ((s[s.size - 1].toNat : Nat) : Int) = 45) : label s.data.toList = false := by
  unfold label
  rw [last_of s h0, eq45, decide_eq_true h]
  simp
theorem label_rest {s : ByteArray} (h0 : 0 < s.size) (h1 : s.size - 1 < s.size) (h : ¬ ((s[0].toNat : Nat) : Int) = 45) (h' : ¬ ((s[s.size - 1].toNat : Nat) : Int) = 45) : label s.data.toList = s.data.toList.all host := by
  unfold label
  rw [head_of s h0, last_of s h1, eq45, eq45, decide_eq_false h, decide_eq_false h']
  simp

theorem host_fall {s : ByteArray} {k : Nat} (hk : k < s.size) (h : host s[k] = false) : s.data.toList.all host = false := by
  rw [List.all_eq_false]
  refine ⟨s.data.toList[k]'(by simpa using hk), List.getElem_mem _, ?_⟩
  have : s.data.toList[k]'(by simpa using hk) = s[k] := rfl
  rw [this, h]
  simp
theorem host_step {s : ByteArray} {k : Nat} (hk : k < s.size) (h0 : (s.data.toList.take k).all host = true) (h : host s[k] = true) : (s.data.toList.take (k + 1)).all host = true := by
  have e : s.data.toList.take (k + 1) = s.data.toList.take k ++ [s[k]] := by rw [List.take_succ_eq_append_getElem (by simpa using hk)]; rfl
  rw [e, List.all_append, h0]
  simp [h]
theorem host_all {s : ByteArray} {k : Nat} (hk : ¬ k < s.size) (h0 : (s.data.toList.take k).all host = true) : s.data.toList.all host = true := by
  rwa [List.take_of_length_le (by have : s.data.toList.length = s.size := rfl; omega)] at h0

set_option maxHeartbeats 2000000 in
theorem isLabel (s : ByteArray) (w : World) (h0 : 0 < s.size) (hs : s.size ≤ 9223372036854775807) :
    Calls Try.prog 36 #[.string s] w fun e w' => e = .returned (.bool (label s.data.toList)) ∧ w' = w := by
  have h1 : s.size - 1 < s.size := by omega
  have i0 : (0 : Int) < (s.size : Int) := by omega
  by_cases g0 : ((s[0].toNat : Nat) : Int) = 45
  · rw [label_head h0 g0]
    go_enter Try.func36, Try.ntmps36
    go_wp2
    go_ret
    exact ⟨rfl, rfl⟩
  by_cases g1 : ((s[s.size - 1].toNat : Nat) : Int) = 45
  · rw [label_last h1 g1]
    go_enter Try.func36, Try.ntmps36
    go_wp2
    go_ret
    exact ⟨rfl, rfl⟩
  have hL : Hid (label s.data.toList = s.data.toList.all host) := label_rest h0 h1 g0 g1
  have b0 : (((s[0].toNat : Nat) : Int) == 45) = false := by rw [beq_eq_false_iff_ne]; exact g0
  have b1 : (((s[s.size - 1].toNat : Nat) : Int) == 45) = false := by rw [beq_eq_false_iff_ne]; exact g1
  clear g0 g1
  go_enter Try.func36, Try.ntmps36
  go_wp2
  go_loop [3] (fun i => ∃ k : Nat, k ≤ s.size ∧ i = .int .i64 k ∧ Hid ((s.data.toList.take k).all host = true)) (fun i => s.size - (intOf i).toNat)
  case atStart => exact ⟨0, Nat.zero_le _, rfl, rfl⟩
  case round =>
    obtain ⟨k, hk, rfl, hall⟩ := hrel
    by_cases hlt : k < s.size
    · have hyes : host s[k] = true → Hid ((s.data.toList.take (k + 1)).all host = true) := fun h => host_step hlt hall.out h
      have hno : host s[k] = false → Hid (label s.data.toList = false) := fun h => hL.out.trans (host_fall hlt h)
      have hH : host s[k] = decide ((97 ≤ s[k].toNat ∧ s[k].toNat ≤ 122) ∨ (65 ≤ s[k].toNat ∧ s[k].toNat ≤ 90) ∨ (48 ≤ s[k].toNat ∧ s[k].toNat ≤ 57) ∨ s[k].toNat = 45) := rfl
      by_cases hh : host s[k] = true
      · have hn := hyes hh
        rw [hH, decide_eq_true_eq] at hh
        clear hyes hno hH
        rcases hh with c | c | c | c
        · have c1 : (97 : Int) ≤ ((s[k].toNat : Nat) : Int) := by omega
          have c2 : ((s[k].toNat : Nat) : Int) ≤ 122 := by omega
          clear c
          go_wp2
          go_round
          case rel => exact ⟨k + 1, by omega, by go_num, hn⟩
          case measure => simp [intOf]; omega
        · have c1 : (65 : Int) ≤ ((s[k].toNat : Nat) : Int) := by omega
          have c2 : ((s[k].toNat : Nat) : Int) ≤ 90 := by omega
          clear c
          go_wp2
          go_round
          case rel => exact ⟨k + 1, by omega, by go_num, hn⟩
          case measure => simp [intOf]; omega
        · have c1 : (48 : Int) ≤ ((s[k].toNat : Nat) : Int) := by omega
          have c2 : ((s[k].toNat : Nat) : Int) ≤ 57 := by omega
          clear c
          go_wp2
          go_round
          case rel => exact ⟨k + 1, by omega, by go_num, hn⟩
          case measure => simp [intOf]; omega
        · have c1 : (45 : Int) ≤ ((s[k].toNat : Nat) : Int) := by omega
          have c2 : ((s[k].toNat : Nat) : Int) ≤ 45 := by omega
          have c3 : (((s[k].toNat : Nat) : Int) == 45) = true := by rw [beq_iff_eq]; omega
          clear c
          go_wp2
          go_round
          case rel => exact ⟨k + 1, by omega, by go_num, hn⟩
          case measure => simp [intOf]; omega
      · have hn := hno (by simpa using hh)
        rw [hH, decide_eq_true_eq] at hh
        clear hyes hno hH
        have h256 := UInt8.toNat_lt s[k]
        rcases (show (0 ≤ s[k].toNat ∧ s[k].toNat ≤ 44) ∨ (46 ≤ s[k].toNat ∧ s[k].toNat ≤ 47) ∨ (58 ≤ s[k].toNat ∧ s[k].toNat ≤ 64) ∨ (91 ≤ s[k].toNat ∧ s[k].toNat ≤ 96) ∨ (123 ≤ s[k].toNat ∧ s[k].toNat ≤ 255) by omega) with c | c | c | c | c
        · have c1 : (0 : Int) ≤ ((s[k].toNat : Nat) : Int) := by omega
          have c2 : ((s[k].toNat : Nat) : Int) ≤ 44 := by omega
          have c3 : (((s[k].toNat : Nat) : Int) == 45) = false := by rw [beq_eq_false_iff_ne]; omega
          clear c hh h256
          go_wp2
          go_ret
          exact ⟨by rw [hn.out]; rfl, rfl⟩
        · have c1 : (46 : Int) ≤ ((s[k].toNat : Nat) : Int) := by omega
          have c2 : ((s[k].toNat : Nat) : Int) ≤ 47 := by omega
          have c3 : (((s[k].toNat : Nat) : Int) == 45) = false := by rw [beq_eq_false_iff_ne]; omega
          clear c hh h256
          go_wp2
          go_ret
          exact ⟨by rw [hn.out]; rfl, rfl⟩
        · have c1 : (58 : Int) ≤ ((s[k].toNat : Nat) : Int) := by omega
          have c2 : ((s[k].toNat : Nat) : Int) ≤ 64 := by omega
          have c3 : (((s[k].toNat : Nat) : Int) == 45) = false := by rw [beq_eq_false_iff_ne]; omega
          have d57 : decide (((s[k].toNat : Nat) : Int) ≤ 57) = false := decide_eq_false (by omega)
          clear c hh h256
          go_wp2
          go_ret
          exact ⟨by rw [hn.out]; rfl, rfl⟩
        · have c1 : (91 : Int) ≤ ((s[k].toNat : Nat) : Int) := by omega
          have c2 : ((s[k].toNat : Nat) : Int) ≤ 96 := by omega
          have c3 : (((s[k].toNat : Nat) : Int) == 45) = false := by rw [beq_eq_false_iff_ne]; omega
          have d57 : decide (((s[k].toNat : Nat) : Int) ≤ 57) = false := decide_eq_false (by omega)
          have d90 : decide (((s[k].toNat : Nat) : Int) ≤ 90) = false := decide_eq_false (by omega)
          clear c hh h256
          go_wp2
          go_ret
          exact ⟨by rw [hn.out]; rfl, rfl⟩
        · have c1 : (123 : Int) ≤ ((s[k].toNat : Nat) : Int) := by omega
          have c2 : ((s[k].toNat : Nat) : Int) ≤ 255 := by omega
          have c3 : (((s[k].toNat : Nat) : Int) == 45) = false := by rw [beq_eq_false_iff_ne]; omega
          have d57 : decide (((s[k].toNat : Nat) : Int) ≤ 57) = false := decide_eq_false (by omega)
          have d90 : decide (((s[k].toNat : Nat) : Int) ≤ 90) = false := decide_eq_false (by omega)
          have d122 : decide (((s[k].toNat : Nat) : Int) ≤ 122) = false := decide_eq_false (by omega)
          clear c hh h256
          go_wp2
          go_ret
          exact ⟨by rw [hn.out]; rfl, rfl⟩
    · have hf : Hid (label s.data.toList = true) := hL.out.trans (host_all hlt hall.out)
      go_wp2
      go_ret
      exact ⟨by rw [hf.out]; rfl, rfl⟩

theorem ZZlabel (s : ByteArray) (w : World) (h0 : 0 < s.size) (hs : s.size ≤ 9223372036854775807) :
    Calls Try.prog 22 #[.string s] w fun e w' => e = .returned (.bool (label s.data.toList)) ∧ w' = w := by
  go_enter Try.func22, Try.ntmps22
  go_wp2_with fail
  refine (isLabel s w h0 hs).mono ?_
  rintro e w1 ⟨rfl, rfl⟩
  go_wp2
  go_ret
  exact ⟨rfl, rfl⟩

end Go.Proofs.Qxb6600927a
