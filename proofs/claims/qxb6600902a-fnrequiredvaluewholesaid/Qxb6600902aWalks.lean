/-
  THE WALKS of the small functions on FnRequiredValueWhole's road: zzLenLeft (8), zzListBytes (7), zzValueAt (12), zzCountName (11), zzBytes_FnRequiredValueWhole (6).
-/
import Derived.Test.Qxb6600902aProg
import Derived.Test.Qxb6600902aPlain
import Derived.WalkKit
import Derived.WalkSpells
namespace Go.Proofs.Qxb6600902a
open Go.RowKit

/-- What a walk is told of a slice of strings that came in: n strings, by their index. -/
def IsStrs (w : World) (a : Option Addr) (n : Nat) (S : Nat → ByteArray) : Prop :=
  n * 16 ≤ 140737488351232 ∧ (n = 0 ∨ ∃ b off, a = some ⟨b, off, none⟩ ∧ ∀ i, i < n → w.cell? ⟨b, off + i, none⟩ = some (.string (S i))) ∧ ∀ i, i < n → (S i).size ≤ 9223372036854775807

theorem lenLeft (n q : Int) (w : World) (h0 : 0 ≤ n) (hq : -1 ≤ q) (hq2 : q ≤ 1048576) :
    Calls Try.prog 8 #[.int .i64 n, .int .i64 q] w fun e w' => ∃ r : Int, -1 ≤ r ∧ r ≤ 1048576 ∧ e = .returned (.int .i64 r) ∧ w' = w := by
  by_cases h1 : q < 0
  · go_enter Try.func8, Try.ntmps8
    go_wp2
    go_ret
    exact ⟨-1, by omega, by omega, rfl, rfl⟩
  · by_cases h2 : q < n
    · go_enter Try.func8, Try.ntmps8
      go_wp2
      go_ret
      exact ⟨-1, by omega, by omega, rfl, rfl⟩
    · go_enter Try.func8, Try.ntmps8
      go_wp2
      go_ret
      exact ⟨q - n, by omega, by omega, rfl, rfl⟩


theorem listBytes (a : Option Addr) (n c : Nat) (S : Nat → ByteArray) (q : Int) (w : World) (hS : IsStrs w a n S) (hq : -1 ≤ q) (hq2 : q ≤ 1048576) :
    Calls Try.prog 7 #[.slice a n c, .int .i64 q] w fun e w' => ∃ r : Int, -1 ≤ r ∧ r ≤ 1048576 ∧ e = .returned (.int .i64 r) ∧ w' = w := by
  obtain ⟨hn, hcells, hsz⟩ := hS
  by_cases h1 : q < 0
  · go_enter Try.func7, Try.ntmps7
    go_wp2
    go_ret
    exact ⟨-1, by omega, by omega, rfl, rfl⟩
  by_cases h2 : q / 16 < (n : Int)
  · go_enter Try.func7, Try.ntmps7
    go_wp2
    go_ret
    exact ⟨-1, by omega, by omega, rfl, rfl⟩
  go_enter Try.func7, Try.ntmps7
  go_wp2
  go_loop [1, 5] (fun b i => ∃ (k : Nat) (r : Int), k ≤ n ∧ i = .int .i64 k ∧ b = .int .i64 r ∧ 0 ≤ r ∧ r ≤ 1048576) (fun _ i => n - (intOf i).toNat)
  case atStart => exact ⟨0, q - 16 * n, Nat.zero_le _, rfl, rfl, by omega, by omega⟩
  case round =>
    obtain ⟨k, r, hk, rfl, rfl, hr0, hr1⟩ := hrel
    by_cases hlt : k < n
    · rcases hcells with h0 | ⟨b, off, rfl, hc⟩
      · omega
      have hck := hc k hlt
      have hsk := hsz k hlt
      by_cases hbig : r < ((S k).size : Int)
      · go_wp2
        go_ret
        exact ⟨-1, by omega, by omega, rfl, rfl⟩
      · go_wp2
        go_round
        case rel => exact ⟨k + 1, r - ((S k).size : Int), by omega, by go_num, rfl, by omega, by omega⟩
        case measure => simp [intOf]; omega
    · go_wp2
      go_ret
      exact ⟨r, by omega, by omega, rfl, rfl⟩

/-- The i-th of n strings; the empty one elsewhere. -/
def atOr (S : Nat → ByteArray) (n : Nat) (i : Nat) : ByteArray := if i < n then S i else ByteArray.empty

theorem valueAt (a : Option Addr) (n c : Nat) (S : Nat → ByteArray) (k : Nat) (w : World) (hS : IsStrs w a n S) (hk : k ≤ 9223372036854775807) :
    Calls Try.prog 12 #[.slice a n c, .int .i64 (k : Int)] w fun e w' => e = .returned (.string (atOr S n k)) ∧ w' = w := by
  obtain ⟨hn, hcells, hsz⟩ := hS
  by_cases hlt : k < n
  · rcases hcells with h0 | ⟨b, off, rfl, hc⟩
    · omega
    have hck := hc k hlt
    have hv : atOr S n k = S k := by simp [atOr, hlt]
    rw [hv]
    clear hv
    go_enter Try.func12, Try.ntmps12
    go_wp2
    go_ret
    exact ⟨rfl, rfl⟩
  · have hv : atOr S n k = ByteArray.empty := by simp [atOr, hlt]
    rw [hv]
    clear hv
    go_enter Try.func12, Try.ntmps12
    go_wp2
    go_ret
    exact ⟨rfl, rfl⟩

theorem countName (a : Option Addr) (n c : Nat) (S : Nat → ByteArray) (s : ByteArray) (w : World) (hS : IsStrs w a n S) :
    Calls Try.prog 11 #[.slice a n c, .string s] w fun e w' => e = .returned (.tuple #[.int .i64 (cnt S s n), .int .i64 (fstAt S s n)]) ∧ w' = w := by
  obtain ⟨hn, hcells, hsz⟩ := hS
  go_enter Try.func11, Try.ntmps11
  go_wp2
  go_loop [6, 7, 8] (fun c f i => ∃ k : Nat, k ≤ n ∧ i = .int .i64 k ∧ c = .int .i64 (cnt S s k) ∧ f = .int .i64 (fstAt S s k)) (fun _ _ i => n - (intOf i).toNat)
  case atStart => exact ⟨0, Nat.zero_le _, rfl, rfl, rfl⟩
  case round =>
    obtain ⟨k, hk, rfl, rfl, rfl⟩ := hrel
    have hcl := cnt_le S s k
    have hfb := fst_bd S s k
    by_cases hlt : k < n
    · rcases hcells with h0 | ⟨b, off, rfl, hc⟩
      · omega
      have hck := hc k hlt
      cases he : eqS (S k) s with
      | false =>
        have H1 : Hid (cnt S s (k + 1) = cnt S s k) := cnt_miss he
        have H2 : Hid (fstAt S s (k + 1) = fstAt S s k) := fst_miss he
        unfold eqS at he
        go_wp2
        go_round
        case rel => exact ⟨k + 1, by omega, by go_num, by rw [H1.out], by rw [H2.out]⟩
        case measure => simp [intOf]; omega
      | true =>
        have H1 : Hid (cnt S s (k + 1) = cnt S s k + 1) := cnt_hit he
        by_cases hf : fstAt S s k < 0
        · have H2 : Hid (fstAt S s (k + 1) = (k : Int)) := fst_hit he hf
          unfold eqS at he
          go_wp2
          go_round
          case rel => exact ⟨k + 1, by omega, by go_num, by rw [H1.out]; go_num, by rw [H2.out]⟩
          case measure => simp [intOf]; omega
        · have H2 : Hid (fstAt S s (k + 1) = fstAt S s k) := fst_keep hf
          unfold eqS at he
          go_wp2
          go_round
          case rel => exact ⟨k + 1, by omega, by go_num, by rw [H1.out]; go_num, by rw [H2.out]⟩
          case measure => simp [intOf]; omega
    · have hkn : k = n := by omega
      subst hkn
      go_wp2
      go_ret2
      exact ⟨rfl, rfl⟩

end Go.Proofs.Qxb6600902a
