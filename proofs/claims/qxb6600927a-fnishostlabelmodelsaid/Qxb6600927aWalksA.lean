/-
  THE WALKS: zzLowerOf (14), zzUpperOf (35), zzInHostBytes (21): a byte looked up in a table.
-/
import Derived.Test.Qxb6600927aProg
import Derived.Test.Qxb6600927aPlain
import Derived.WalkKit
import Derived.WalkSpells
namespace Go.Proofs.Qxb6600927a
open Go.RowKit

theorem tabU_at (k : Nat) (h : k < 26) (h' : k < (⟨#[65, 66, 67, 68, 69, 70, 71, 72, 73, 74, 75, 76, 77, 78, 79, 80, 81, 82, 83, 84, 85, 86, 87, 88, 89, 90]⟩ : ByteArray).size) : (((⟨#[65, 66, 67, 68, 69, 70, 71, 72, 73, 74, 75, 76, 77, 78, 79, 80, 81, 82, 83, 84, 85, 86, 87, 88, 89, 90]⟩ : ByteArray)[k]'h').toNat) = 65 + k := by
  have H : ∀ i : Fin 26, (((#[65, 66, 67, 68, 69, 70, 71, 72, 73, 74, 75, 76, 77, 78, 79, 80, 81, 82, 83, 84, 85, 86, 87, 88, 89, 90] : Array UInt8)[i.val]'(i.isLt)).toNat) = 65 + i.val := by decide
  exact H ⟨k, h⟩
theorem tabU_hit {k : Nat} {c : UInt8} {h' : k < (⟨#[65, 66, 67, 68, 69, 70, 71, 72, 73, 74, 75, 76, 77, 78, 79, 80, 81, 82, 83, 84, 85, 86, 87, 88, 89, 90]⟩ : ByteArray).size} (h : k < 26) (he : (((((⟨#[65, 66, 67, 68, 69, 70, 71, 72, 73, 74, 75, 76, 77, 78, 79, 80, 81, 82, 83, 84, 85, 86, 87, 88, 89, 90]⟩ : ByteArray)[k]'h').toNat : Nat) : Int) == (c.toNat : Int)) = true) : c.toNat = 65 + k := by
  rw [beq_iff_eq, tabU_at k h h'] at he; omega
theorem tabU_miss {k : Nat} {c : UInt8} {h' : k < (⟨#[65, 66, 67, 68, 69, 70, 71, 72, 73, 74, 75, 76, 77, 78, 79, 80, 81, 82, 83, 84, 85, 86, 87, 88, 89, 90]⟩ : ByteArray).size} (h : k < 26) (he : (((((⟨#[65, 66, 67, 68, 69, 70, 71, 72, 73, 74, 75, 76, 77, 78, 79, 80, 81, 82, 83, 84, 85, 86, 87, 88, 89, 90]⟩ : ByteArray)[k]'h').toNat : Nat) : Int) == (c.toNat : Int)) = false) : c.toNat ≠ 65 + k := by
  rw [beq_eq_false_iff_ne, tabU_at k h h'] at he; omega
theorem tabL_at (k : Nat) (h : k < 26) (h' : k < (⟨#[97, 98, 99, 100, 101, 102, 103, 104, 105, 106, 107, 108, 109, 110, 111, 112, 113, 114, 115, 116, 117, 118, 119, 120, 121, 122]⟩ : ByteArray).size) : (((⟨#[97, 98, 99, 100, 101, 102, 103, 104, 105, 106, 107, 108, 109, 110, 111, 112, 113, 114, 115, 116, 117, 118, 119, 120, 121, 122]⟩ : ByteArray)[k]'h').toNat) = 97 + k := by
  have H : ∀ i : Fin 26, (((#[97, 98, 99, 100, 101, 102, 103, 104, 105, 106, 107, 108, 109, 110, 111, 112, 113, 114, 115, 116, 117, 118, 119, 120, 121, 122] : Array UInt8)[i.val]'(i.isLt)).toNat) = 97 + i.val := by decide
  exact H ⟨k, h⟩
theorem tabL_hit {k : Nat} {c : UInt8} {h' : k < (⟨#[97, 98, 99, 100, 101, 102, 103, 104, 105, 106, 107, 108, 109, 110, 111, 112, 113, 114, 115, 116, 117, 118, 119, 120, 121, 122]⟩ : ByteArray).size} (h : k < 26) (he : (((((⟨#[97, 98, 99, 100, 101, 102, 103, 104, 105, 106, 107, 108, 109, 110, 111, 112, 113, 114, 115, 116, 117, 118, 119, 120, 121, 122]⟩ : ByteArray)[k]'h').toNat : Nat) : Int) == (c.toNat : Int)) = true) : c.toNat = 97 + k := by
  rw [beq_iff_eq, tabL_at k h h'] at he; omega
theorem tabL_miss {k : Nat} {c : UInt8} {h' : k < (⟨#[97, 98, 99, 100, 101, 102, 103, 104, 105, 106, 107, 108, 109, 110, 111, 112, 113, 114, 115, 116, 117, 118, 119, 120, 121, 122]⟩ : ByteArray).size} (h : k < 26) (he : (((((⟨#[97, 98, 99, 100, 101, 102, 103, 104, 105, 106, 107, 108, 109, 110, 111, 112, 113, 114, 115, 116, 117, 118, 119, 120, 121, 122]⟩ : ByteArray)[k]'h').toNat : Nat) : Int) == (c.toNat : Int)) = false) : c.toNat ≠ 97 + k := by
  rw [beq_eq_false_iff_ne, tabL_at k h h'] at he; omega

theorem ret_u8 {a b : Int} (h : a = b) : Ending.returned (.int .u8 a) = .returned (.int .u8 b) := by rw [h]

theorem low_at {c : UInt8} {k : Nat} (hk : k < 26) (h : c.toNat = 65 + k) : ((low c).toNat) = 97 + k := by rw [low_yes (by omega)]; omega
theorem up_at {c : UInt8} {k : Nat} (hk : k < 26) (h : c.toNat = 97 + k) : ((up c).toNat) = 65 + k := by rw [up_yes (by omega)]; omega

set_option maxHeartbeats 400000 in
theorem lowerOf (c : UInt8) (w : World) :
    Calls Try.prog 14 #[.int .u8 (c.toNat : Int)] w fun e w' => e = .returned (.int .u8 ((low c).toNat : Int)) ∧ w' = w := by
  go_enter Try.func14, Try.ntmps14
  go_wp2
  go_loop [3] (fun i => ∃ k : Nat, k ≤ 26 ∧ i = .int .i64 k ∧ (c.toNat < 65 ∨ 65 + k ≤ c.toNat)) (fun i => 26 - (intOf i).toNat)
  case atStart => exact ⟨0, by omega, rfl, by omega⟩
  case round =>
    obtain ⟨k, hk, rfl, hc⟩ := hrel
    by_cases hlt : k < 26
    · go_wp2
      · have hh := tabU_hit hlt (by assumption)
        go_ret
        refine ⟨ret_u8 ?_, rfl⟩
        rw [low_at hlt hh, tabL_at k hlt]
      · have hh := tabU_miss hlt (by assumption)
        go_round
        case rel => exact ⟨k + 1, by omega, by go_num, by omega⟩
        case measure => simp [intOf]; omega
    · go_wp2
      go_ret
      exact ⟨by rw [low_no (show ¬ (65 ≤ c.toNat ∧ c.toNat ≤ 90) by omega)]; rfl, rfl⟩

set_option maxHeartbeats 400000 in
theorem upperOf (c : UInt8) (w : World) :
    Calls Try.prog 35 #[.int .u8 (c.toNat : Int)] w fun e w' => e = .returned (.int .u8 ((up c).toNat : Int)) ∧ w' = w := by
  go_enter Try.func35, Try.ntmps35
  go_wp2
  go_loop [3] (fun i => ∃ k : Nat, k ≤ 26 ∧ i = .int .i64 k ∧ (c.toNat < 97 ∨ 97 + k ≤ c.toNat)) (fun i => 26 - (intOf i).toNat)
  case atStart => exact ⟨0, by omega, rfl, by omega⟩
  case round =>
    obtain ⟨k, hk, rfl, hc⟩ := hrel
    by_cases hlt : k < 26
    · go_wp2
      · have hh := tabL_hit hlt (by assumption)
        go_ret
        refine ⟨ret_u8 ?_, rfl⟩
        rw [up_at hlt hh, tabU_at k hlt]
      · have hh := tabL_miss hlt (by assumption)
        go_round
        case rel => exact ⟨k + 1, by omega, by go_num, by omega⟩
        case measure => simp [intOf]; omega
    · go_wp2
      go_ret
      exact ⟨by rw [up_no (show ¬ (97 ≤ c.toNat ∧ c.toNat ≤ 122) by omega)]; rfl, rfl⟩

/-- The table of host bytes, by its place. -/
def hostAt (k : Nat) : Nat := if k < 26 then 97 + k else if k < 52 then 39 + k else if k < 62 then k - 4 else 45
theorem tabH_at (k : Nat) (h : k < 63) (h' : k < (⟨#[97, 98, 99, 100, 101, 102, 103, 104, 105, 106, 107, 108, 109, 110, 111, 112, 113, 114, 115, 116, 117, 118, 119, 120, 121, 122, 65, 66, 67, 68, 69, 70, 71, 72, 73, 74, 75, 76, 77, 78, 79, 80, 81, 82, 83, 84, 85, 86, 87, 88, 89, 90, 48, 49, 50, 51, 52, 53, 54, 55, 56, 57, 45]⟩ : ByteArray).size) : (((⟨#[97, 98, 99, 100, 101, 102, 103, 104, 105, 106, 107, 108, 109, 110, 111, 112, 113, 114, 115, 116, 117, 118, 119, 120, 121, 122, 65, 66, 67, 68, 69, 70, 71, 72, 73, 74, 75, 76, 77, 78, 79, 80, 81, 82, 83, 84, 85, 86, 87, 88, 89, 90, 48, 49, 50, 51, 52, 53, 54, 55, 56, 57, 45]⟩ : ByteArray)[k]'h').toNat) = hostAt k := by
  have H : ∀ i : Fin 63, (((#[97, 98, 99, 100, 101, 102, 103, 104, 105, 106, 107, 108, 109, 110, 111, 112, 113, 114, 115, 116, 117, 118, 119, 120, 121, 122, 65, 66, 67, 68, 69, 70, 71, 72, 73, 74, 75, 76, 77, 78, 79, 80, 81, 82, 83, 84, 85, 86, 87, 88, 89, 90, 48, 49, 50, 51, 52, 53, 54, 55, 56, 57, 45] : Array UInt8)[i.val]'(i.isLt)).toNat) = hostAt i.val := by decide
  exact H ⟨k, h⟩
theorem tabH_hit {k : Nat} {c : UInt8} {h' : k < (⟨#[97, 98, 99, 100, 101, 102, 103, 104, 105, 106, 107, 108, 109, 110, 111, 112, 113, 114, 115, 116, 117, 118, 119, 120, 121, 122, 65, 66, 67, 68, 69, 70, 71, 72, 73, 74, 75, 76, 77, 78, 79, 80, 81, 82, 83, 84, 85, 86, 87, 88, 89, 90, 48, 49, 50, 51, 52, 53, 54, 55, 56, 57, 45]⟩ : ByteArray).size} (h : k < 63) (he : (((((⟨#[97, 98, 99, 100, 101, 102, 103, 104, 105, 106, 107, 108, 109, 110, 111, 112, 113, 114, 115, 116, 117, 118, 119, 120, 121, 122, 65, 66, 67, 68, 69, 70, 71, 72, 73, 74, 75, 76, 77, 78, 79, 80, 81, 82, 83, 84, 85, 86, 87, 88, 89, 90, 48, 49, 50, 51, 52, 53, 54, 55, 56, 57, 45]⟩ : ByteArray)[k]'h').toNat : Nat) : Int) == (c.toNat : Int)) = true) : c.toNat = hostAt k := by
  rw [beq_iff_eq, tabH_at k h h'] at he; omega
theorem tabH_miss {k : Nat} {c : UInt8} {h' : k < (⟨#[97, 98, 99, 100, 101, 102, 103, 104, 105, 106, 107, 108, 109, 110, 111, 112, 113, 114, 115, 116, 117, 118, 119, 120, 121, 122, 65, 66, 67, 68, 69, 70, 71, 72, 73, 74, 75, 76, 77, 78, 79, 80, 81, 82, 83, 84, 85, 86, 87, 88, 89, 90, 48, 49, 50, 51, 52, 53, 54, 55, 56, 57, 45]⟩ : ByteArray).size} (h : k < 63) (he : (((((⟨#[97, 98, 99, 100, 101, 102, 103, 104, 105, 106, 107, 108, 109, 110, 111, 112, 113, 114, 115, 116, 117, 118, 119, 120, 121, 122, 65, 66, 67, 68, 69, 70, 71, 72, 73, 74, 75, 76, 77, 78, 79, 80, 81, 82, 83, 84, 85, 86, 87, 88, 89, 90, 48, 49, 50, 51, 52, 53, 54, 55, 56, 57, 45]⟩ : ByteArray)[k]'h').toNat : Nat) : Int) == (c.toNat : Int)) = false) : c.toNat ≠ hostAt k := by
  rw [beq_eq_false_iff_ne, tabH_at k h h'] at he; omega
theorem host_at {c : UInt8} {k : Nat} (hk : k < 63) (h : c.toNat = hostAt k) : host c = true := by
  unfold host
  unfold hostAt at h
  rw [decide_eq_true_eq]
  split at h
  · omega
  · split at h
    · omega
    · split at h <;> omega
theorem host_none {c : UInt8} (h : ∀ k, k < 63 → c.toNat ≠ hostAt k) : host c = false := by
  unfold host
  rw [decide_eq_false_iff_not]
  rintro (hc | hc | hc | hc)
  · refine h (c.toNat - 97) (by omega) ?_
    unfold hostAt
    rw [if_pos (by omega)]; omega
  · refine h (c.toNat - 39) (by omega) ?_
    unfold hostAt
    rw [if_neg (by omega), if_pos (by omega)]; omega
  · refine h (c.toNat + 4) (by omega) ?_
    unfold hostAt
    rw [if_neg (by omega), if_neg (by omega), if_pos (by omega)]; omega
  · refine h 62 (by omega) ?_
    unfold hostAt
    rw [if_neg (by omega), if_neg (by omega), if_neg (by omega)]; omega

set_option maxRecDepth 10000 in
set_option maxHeartbeats 400000 in
theorem inHost (c : UInt8) (w : World) :
    Calls Try.prog 21 #[.int .u8 (c.toNat : Int)] w fun e w' => e = .returned (.bool (host c)) ∧ w' = w := by
  go_enter Try.func21, Try.ntmps21
  go_wp2
  go_loop [3] (fun i => ∃ k : Nat, k ≤ 63 ∧ i = .int .i64 k ∧ Hid (∀ j, j < k → c.toNat ≠ hostAt j)) (fun i => 63 - (intOf i).toNat)
  case atStart => exact ⟨0, by omega, rfl, fun j hj => absurd hj (by omega)⟩
  case round =>
    obtain ⟨k, hk, rfl, hc⟩ := hrel
    by_cases hlt : k < 63
    · go_wp2
      · have hh := host_at hlt (tabH_hit hlt (by assumption))
        go_ret
        exact ⟨by rw [hh]; rfl, rfl⟩
      · have hh := tabH_miss hlt (by assumption)
        have hc' : Hid (∀ j, j < k + 1 → c.toNat ≠ hostAt j) := fun j hj => by
          by_cases e : j = k
          · subst e; exact hh
          · exact hc.out j (by omega)
        go_round
        case rel => exact ⟨k + 1, by omega, by go_num, hc'⟩
        case measure => simp [intOf]; omega
    · have hh : host c = false := host_none (fun j hj => hc.out j (by omega))
      have HH : Hid (host c = false) := hh
      clear hh
      go_wp2
      go_ret
      exact ⟨by rw [HH.out]; rfl, rfl⟩

end Go.Proofs.Qxb6600927a
