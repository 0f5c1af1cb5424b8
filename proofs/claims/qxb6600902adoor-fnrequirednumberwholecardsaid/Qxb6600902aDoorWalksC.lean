/-
  THE WALKS of the small functions on FnRequiredNumberWhole's road: zzLenLeft (15), zzListBytes (14), zzValueAt (24), zzCountName (25).
-/
import Derived.Test.Qxb6600902aDoorProg
import Derived.Test.Qxb6600902aDoorCount
import Derived.WalkKit
import Derived.WalkSpells
namespace Go.Proofs.Qxb6600902aDoor
open Go.RowKit

/-- What a walk is told of a slice of strings that came in: n strings, by their index. -/
def IsStrs (w : World) (a : Option Addr) (n : Nat) (S : Nat → ByteArray) : Prop :=
  n * 16 ≤ 140737488351232 ∧ (n = 0 ∨ ∃ b off, a = some ⟨b, off, none⟩ ∧ ∀ i, i < n → w.cell? ⟨b, off + i, none⟩ = some (.string (S i))) ∧ ∀ i, i < n → (S i).size ≤ 9223372036854775807

/-- What zzLenLeft leaves: it is negative where the budget was. -/
def LessLeft (q : Int) (w : World) (e : Ending) (w' : World) : Prop := ∃ r : Int, -1 ≤ r ∧ r ≤ 1048576 ∧ (0 ≤ r → 0 ≤ q) ∧ e = .returned (.int .i64 r) ∧ w' = w

theorem lenLeft (n q : Int) (w : World) (h0 : 0 ≤ n) (hq : -1 ≤ q) (hq2 : q ≤ 1048576) :
    Calls Tryd.prog 15 #[.int .i64 n, .int .i64 q] w fun e w' => LessLeft q w e w' := by
  by_cases h1 : q < 0
  · go_enter Tryd.func15, Tryd.ntmps15
    go_wp2
    go_ret
    exact ⟨-1, by omega, by omega, fun h => absurd h (by omega), rfl, rfl⟩
  · by_cases h2 : q < n
    · go_enter Tryd.func15, Tryd.ntmps15
      go_wp2
      go_ret
      exact ⟨-1, by omega, by omega, fun h => absurd h (by omega), rfl, rfl⟩
    · go_enter Tryd.func15, Tryd.ntmps15
      go_wp2
      go_ret
      exact ⟨q - n, by omega, by omega, fun _ => by omega, rfl, rfl⟩

/-- What zzListBytes leaves: what is left of the budget; where that is not negative every string is short. -/
def Left (n : Nat) (S : Nat → ByteArray) (w : World) (e : Ending) (w' : World) : Prop :=
  ∃ r : Int, -1 ≤ r ∧ r ≤ 1048576 ∧ (0 ≤ r → ∀ i, i < n → (S i).size ≤ 1048576) ∧ e = .returned (.int .i64 r) ∧ w' = w

theorem listBytes (a : Option Addr) (n c : Nat) (S : Nat → ByteArray) (q : Int) (w : World) (hS : IsStrs w a n S) (hq : -1 ≤ q) (hq2 : q ≤ 1048576) :
    Calls Tryd.prog 14 #[.slice a n c, .int .i64 q] w fun e w' => Left n S w e w' := by
  obtain ⟨hn, hcells, hsz⟩ := hS
  by_cases h1 : q < 0
  · go_enter Tryd.func14, Tryd.ntmps14
    go_wp2
    go_ret
    exact ⟨-1, by omega, by omega, fun h => absurd h (by omega), rfl, rfl⟩
  by_cases h2 : q / 16 < (n : Int)
  · go_enter Tryd.func14, Tryd.ntmps14
    go_wp2
    go_ret
    exact ⟨-1, by omega, by omega, fun h => absurd h (by omega), rfl, rfl⟩
  go_enter Tryd.func14, Tryd.ntmps14
  go_wp2
  go_loop [1, 5] (fun b i => ∃ (k : Nat) (r : Int), k ≤ n ∧ i = .int .i64 k ∧ b = .int .i64 r ∧ 0 ≤ r ∧ r ≤ 1048576 ∧ Hid (∀ i, i < k → (S i).size ≤ 1048576)) (fun _ i => n - (intOf i).toNat)
  case atStart => exact ⟨0, q - 16 * n, Nat.zero_le _, rfl, rfl, by omega, by omega, fun i hi => absurd hi (by omega)⟩
  case round =>
    obtain ⟨k, r, hk, rfl, rfl, hr0, hr1, hsm⟩ := hrel
    by_cases hlt : k < n
    · rcases hcells with h0 | ⟨b, off, rfl, hc⟩
      · omega
      have hck := hc k hlt
      have hsk := hsz k hlt
      by_cases hbig : r < ((S k).size : Int)
      · go_wp2
        go_ret
        exact ⟨-1, by omega, by omega, fun h => absurd h (by omega), rfl, rfl⟩
      · have hsm' : Hid (∀ i, i < k + 1 → (S i).size ≤ 1048576) := fun i hi => by
          by_cases e : i = k
          · subst e; omega
          · exact hsm.out i (by omega)
        go_wp2
        go_round
        case rel => exact ⟨k + 1, r - ((S k).size : Int), by omega, by go_num, rfl, by omega, by omega, hsm'⟩
        case measure => simp [intOf]; omega
    · have hkn : k = n := by omega
      subst hkn
      go_wp2
      go_ret
      exact ⟨r, by omega, by omega, fun _ => hsm.out, rfl, rfl⟩

/-- The i-th of n strings; the empty one elsewhere. -/
def atOr (S : Nat → ByteArray) (n : Nat) (i : Nat) : ByteArray := if i < n then S i else ByteArray.empty

theorem valueAt (a : Option Addr) (n c : Nat) (S : Nat → ByteArray) (k : Nat) (w : World) (hS : IsStrs w a n S) (hk : k ≤ 9223372036854775807) :
    Calls Tryd.prog 24 #[.slice a n c, .int .i64 (k : Int)] w fun e w' => e = .returned (.string (atOr S n k)) ∧ w' = w := by
  obtain ⟨hn, hcells, hsz⟩ := hS
  by_cases hlt : k < n
  · rcases hcells with h0 | ⟨b, off, rfl, hc⟩
    · omega
    have hck := hc k hlt
    have hv : atOr S n k = S k := by simp [atOr, hlt]
    rw [hv]
    clear hv
    go_enter Tryd.func24, Tryd.ntmps24
    go_wp2
    go_ret
    exact ⟨rfl, rfl⟩
  · have hv : atOr S n k = ByteArray.empty := by simp [atOr, hlt]
    rw [hv]
    clear hv
    go_enter Tryd.func24, Tryd.ntmps24
    go_wp2
    go_ret
    exact ⟨rfl, rfl⟩

theorem countName (a : Option Addr) (n c : Nat) (S : Nat → ByteArray) (s : ByteArray) (w : World) (hS : IsStrs w a n S) :
    Calls Tryd.prog 25 #[.slice a n c, .string s] w fun e w' => e = .returned (.tuple #[.int .i64 (cnt S s n), .int .i64 (fstAt S s n)]) ∧ w' = w := by
  obtain ⟨hn, hcells, hsz⟩ := hS
  go_enter Tryd.func25, Tryd.ntmps25
  go_wp2
  go_loop [6, 7, 8] (fun c f i => ∃ k : Nat, k ≤ n ∧ i = .int .i64 k ∧ c = .int .i64 (cnt S s k) ∧ f = .int .i64 (fstAt S s k)) (fun _ _ i => n - (intOf i).toNat)
  case atStart => exact ⟨0, Nat.zero_le _, rfl, rfl, rfl⟩
  case round =>
    obtain ⟨k, hk, rfl, rfl, rfl⟩ := hrel
    have hcl := cnt_le S s k
    have hfb := fst_bd S s k
    by_cases hlt : k < n
    · rcases hcells with h0 | ⟨b, off, rfl, hc⟩
      · omega
      have hck := hc k hlt
      cases he : eqS (S k) s with
      | false =>
        have H1 : Hid (cnt S s (k + 1) = cnt S s k) := cnt_miss he
        have H2 : Hid (fstAt S s (k + 1) = fstAt S s k) := fst_miss he
        unfold eqS at he
        go_wp2
        go_round
        case rel => exact ⟨k + 1, by omega, by go_num, by rw [H1.out], by rw [H2.out]⟩
        case measure => simp [intOf]; omega
      | true =>
        have H1 : Hid (cnt S s (k + 1) = cnt S s k + 1) := cnt_hit he
        by_cases hf : fstAt S s k < 0
        · have H2 : Hid (fstAt S s (k + 1) = (k : Int)) := fst_hit he hf
          unfold eqS at he
          go_wp2
          go_round
          case rel => exact ⟨k + 1, by omega, by go_num, by rw [H1.out]; go_num, by rw [H2.out]⟩
          case measure => simp [intOf]; omega
        · have H2 : Hid (fstAt S s (k + 1) = fstAt S s k) := fst_keep hf
          unfold eqS at he
          go_wp2
          go_round
          case rel => exact ⟨k + 1, by omega, by go_num, by rw [H1.out]; go_num, by rw [H2.out]⟩
          case measure => simp [intOf]; omega
    · have hkn : k = n := by omega
      subst hkn
      go_wp2
      go_ret2
      exact ⟨rfl, rfl⟩

end Go.Proofs.Qxb6600902aDoor
