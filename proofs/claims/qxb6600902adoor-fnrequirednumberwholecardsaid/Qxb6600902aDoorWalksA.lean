/-
  THE WALKS, on: requiredValue (31).
-/
import Derived.Test.Qxb6600902aDoorProg
import Derived.Test.Qxb6600902aDoorCount
import Derived.WalkKit
import Derived.WalkSpells
namespace Go.Proofs.Qxb6600902aDoor
open Go.RowKit

/-- n pairs lie in block b. -/
def IsPairs (w : World) (b n : Nat) (N V : Nat → ByteArray) : Prop :=
  n ≤ 140737488351232 ∧ ∀ i, i < n → w.cell? ⟨b, i * 2, none⟩ = some (.string (N i)) ∧ w.cell? ⟨b, i * 2 + 1, none⟩ = some (.string (V i))

set_option maxHeartbeats 1000000 in
theorem required (b n c : Nat) (N V : Nat → ByteArray) (s : ByteArray) (w : World) (hP : IsPairs w b n N V) :
    Calls Tryd.prog 31 #[.slice (some ⟨b, 0, none⟩) n c, .string s] w fun e w' => e = .returned (.tuple #[.string (pick N V s n), .bool (decide (cnt N s n = 1))]) ∧ Below w.heap.size w w' := by
  obtain ⟨hn, hc⟩ := hP
  go_enter Tryd.func31, Tryd.ntmps31
  go_wp2
  go_loopw [4, 5, 10] (fun v o i wr => ∃ k : Nat, k ≤ n ∧ i = .int .i64 k ∧ cnt N s k ≤ 1 ∧ v = .string (pick N V s k) ∧ o = .bool (decide (cnt N s k = 1)) ∧ Below w.heap.size w wr) (fun _ _ i _ => n - (intOf i).toNat)
  case atStart => exact ⟨0, Nat.zero_le _, rfl, by simp [cnt], by rw [pick_zero]; rfl, rfl, Below.refl _ _⟩
  case round =>
    obtain ⟨k, hk, rfl, hk1, rfl, rfl, hbel⟩ := hrel
    by_cases hlt : k < n
    · obtain ⟨hc0, hc1⟩ := hc k hlt
      have hbw : b < w.heap.size := World.block_lt_of_cell? _ _ hc0
      rw [← hbel.cell (p := ⟨b, k * 2, none⟩) hbw] at hc0
      rw [← hbel.cell (p := ⟨b, k * 2 + 1, none⟩) hbw] at hc1
      clear hc
      go_wp2
      · have he : eqS (N k) s = true := by assumption
        have h1 : cnt N s k = 1 := by assumption
        have h2 : cnt N s n ≠ 1 := by
          have e1 := cnt_hit he
          have e2 := cnt_mono N s (k + 1) (n - (k + 1))
          rw [show k + 1 + (n - (k + 1)) = n by omega] at e2
          omega
        go_ret2
        exact ⟨by rw [pick_none h2, decide_eq_false h2]; rfl, hbel.alloc hbel.size _⟩
      · have he : eqS (N k) s = true := by assumption
        have h1 : ¬ cnt N s k = 1 := by assumption
        have h0 : cnt N s k = 0 := by omega
        have e1 := cnt_hit he
        go_roundw
        case rel => exact ⟨k + 1, by omega, by go_num, by omega, by rw [pick_hit he h0], by rw [decide_eq_true (show cnt N s (k + 1) = 1 by omega)], hbel.alloc hbel.size _⟩
        case measure => simp [intOf]; omega
      · have he : eqS (N k) s = false := by assumption
        go_roundw
        case rel => exact ⟨k + 1, by omega, by go_num, by rw [cnt_miss he]; exact hk1, by rw [pick_miss he], by rw [cnt_miss he], hbel.alloc hbel.size _⟩
        case measure => simp [intOf]; omega
    · have hkn : k = n := by omega
      subst hkn
      go_wp2
      go_ret2
      exact ⟨rfl, hbel⟩

end Go.Proofs.Qxb6600902aDoor
