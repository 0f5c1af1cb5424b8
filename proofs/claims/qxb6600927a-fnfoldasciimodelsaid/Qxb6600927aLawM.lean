/-
  THE WALKS: zzBytes_.. (12, 15, 20, 23); the law FnFoldASCIIModel (3).
-/
import Derived.Test.Qxb6600927aWalksB
import Derived.Deep.QuietTactic
import Derived.BigQuiet
namespace Go.Proofs.Qxb6600927a
open Go.RowKit

/-- It hands back a Bool, and nothing has turned. -/
def SomeBool (w : World) (e : Ending) (w' : World) : Prop := ∃ b : Bool, e = .returned (.bool b) ∧ w' = w

theorem bytes12 (s : ByteArray) (w : World) (hs : s.size ≤ 9223372036854775807) : Calls Try.prog 12 #[.string s] w fun e w' => SomeBool w e w' := by
  by_cases g : (1048576 : Int) < (s.size : Int)
  · go_enter Try.func12, Try.ntmps12
    go_wp2
    go_ret
    exact ⟨_, rfl, rfl⟩
  · go_enter Try.func12, Try.ntmps12
    go_wp2
    go_ret
    exact ⟨_, rfl, rfl⟩

theorem below_drewN {W : World} {a : World} (h : Below W.heap.size W a) (n : Nat) : Below W.heap.size W (a.drewN n) := h.trans ⟨rfl, rfl, rfl, Nat.le_refl _, fun _ _ => rfl⟩

set_option maxHeartbeats 1000000 in
theorem lawModel (s : ByteArray) (w : World) (hs : s.size ≤ 9223372036854775807) :
    Calls Try.prog 3 #[.string s] w fun e w' => e = .returned (.bool true) ∧ Below w.heap.size w w' := by
  go_enter Try.func3, Try.ntmps3
  go_wp2_with fail
  refine (bytes12 s w hs).mono ?_
  rintro e w1 ⟨b, rfl, rfl⟩
  cases b with
  | false =>
    go_wp2_with fail
    go_ret
    exact ⟨rfl, Below.refl _ _⟩
  | true =>
    by_cases g : (1048576 : Int) < (s.size : Int)
    · go_wp2_with fail
      go_ret
      exact ⟨rfl, Below.refl _ _⟩
    go_wp2_with fail
    refine (ZZfold s _ hs).mono ?_
    rintro e w2 ⟨rfl, hb2⟩
    have hgs := mapB_size low s
    have HG : Hid (∀ (k : Nat) (h : k < s.size) (h' : k < (mapB low s).size), (mapB low s)[k] = low s[k]) := fun k h _ => mapB_get low s k h
    generalize mapB low s = f at hgs HG ⊢
    have hle1 : f.size ≤ s.size := by omega
    have hle2 : s.size ≤ f.size := by omega
    have hne : ((f.size : Int) != (s.size : Int)) = false := by rw [bne_eq_false_iff_eq]; omega
    clear hgs
    go_wp2_with fail
    go_loopw [4] (fun i wr => ∃ k : Nat, k ≤ s.size ∧ i = .int .i64 k ∧ Below w1.heap.size w1 wr) (fun i _ => s.size - (intOf i).toNat)
    case atStart => exact ⟨0, Nat.zero_le _, rfl, hb2⟩
    case round =>
      obtain ⟨k, hk, rfl, hbel⟩ := hrel
      by_cases hlt : k < s.size
      · have hlf : k < f.size := by omega
        have i1 : (k : Int) < (s.size : Int) := by omega
        have i2 : (k : Int) < (f.size : Int) := by omega
        have ht : (((f[k].toNat : Nat) : Int) != (((low s[k]).toNat : Nat) : Int)) = false := by rw [HG.out k hlt hlf]; simp
        go_wp2_with fail
        go_quiet ((go_at_call 14; exact Calls.quiet_of_same (lowerOf _ _)))
        go_wp2_with fail
        go_roundw
        case rel => exact ⟨k + 1, by omega, by go_num, below_drewN hbel _⟩
        case measure => simp [intOf]; omega
      · go_wp2_with fail
        go_ret
        exact ⟨rfl, hbel⟩

end Go.Proofs.Qxb6600927a
