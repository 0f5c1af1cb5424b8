/-
  THE WALKS, on: zzBytes_FnRequiredNumberWhole (13): some Bool; nothing is written.
-/
import Derived.Test.Qxb6600902aDoorWalksC
namespace Go.Proofs.Qxb6600902aDoor
open Go.RowKit

/-- It hands back a Bool, and nothing has turned. -/
def SomeBoolW (w : World) (e : Ending) (w' : World) : Prop := ∃ b : Bool, e = .returned (.bool b) ∧ w' = w

set_option maxHeartbeats 1000000 in
theorem bytesWhole (a0 : Option Addr) (n0 c0 : Nat) (S0 : Nat → ByteArray) (a1 : Option Addr) (n1 c1 : Nat) (S1 : Nat → ByteArray) (s : ByteArray) (lim : Int) (w : World) (h0 : IsStrs w a0 n0 S0) (h1 : IsStrs w a1 n1 S1) (hs : s.size ≤ 9223372036854775807) :
    Calls Tryd.prog 13 #[.slice a0 n0 c0, .slice a1 n1 c1, .string s, .int .u64 lim] w fun e w' => SomeBoolW w e w' := by
  obtain ⟨hn0, hcells0, hsz0⟩ := h0
  obtain ⟨hn1, hcells1, hsz1⟩ := h1
  by_cases g1 : (1048576 : Int) < (n0 : Int)
  · go_enter Tryd.func13, Tryd.ntmps13
    go_wp2
    go_ret
    exact ⟨_, rfl, rfl⟩
  go_enter Tryd.func13, Tryd.ntmps13
  go_wp2
  go_loop [9, 10] (fun b i => ∃ (k : Nat) (r : Int), k ≤ n0 ∧ i = .int .i64 k ∧ b = .int .i64 r ∧ 0 ≤ r ∧ r ≤ 1048576) (fun _ i => n0 - (intOf i).toNat)
  case atStart => exact ⟨0, _, Nat.zero_le _, rfl, rfl, by omega, by omega⟩
  case round =>
    obtain ⟨k, r, hk, rfl, rfl, hr0, hr1⟩ := hrel
    by_cases hlt : k < n0
    · rcases hcells0 with h0 | ⟨b, off, rfl, hc⟩
      · omega
      have hck := hc k hlt
      have hsk := hsz0 k hlt
      by_cases hbig : (1048576 : Int) < ((S0 k).size : Int)
      · go_wp2
        go_ret
        exact ⟨_, rfl, rfl⟩
      · by_cases hbig2 : (1048576 : Int) < r + ((S0 k).size : Int)
        · go_wp2
          go_ret
          exact ⟨_, rfl, rfl⟩
        go_wp2
        go_round
        case rel => exact ⟨k + 1, r + ((S0 k).size : Int), by omega, by go_num, rfl, by omega, by omega⟩
        case measure => simp [intOf]; omega
    · by_cases g2 : (1048576 : Int) < (n1 : Int)
      · go_wp2
        go_ret
        exact ⟨_, rfl, rfl⟩
      by_cases g3 : (1048576 : Int) < r + (n1 : Int)
      · go_wp2
        go_ret
        exact ⟨_, rfl, rfl⟩
      go_wp2
      go_loop [9, 11] (fun b i => ∃ (k : Nat) (r : Int), k ≤ n1 ∧ i = .int .i64 k ∧ b = .int .i64 r ∧ 0 ≤ r ∧ r ≤ 1048576) (fun _ i => n1 - (intOf i).toNat)
      case atStart => exact ⟨0, _, Nat.zero_le _, rfl, rfl, by omega, by omega⟩
      case round =>
        obtain ⟨k1, r1, hk1, rfl, rfl, hr10, hr11⟩ := hrel
        by_cases hlt1 : k1 < n1
        · rcases hcells1 with h0 | ⟨b, off, rfl, hc⟩
          · omega
          have hck1 := hc k1 hlt1
          have hsk1 := hsz1 k1 hlt1
          by_cases hbig : (1048576 : Int) < ((S1 k1).size : Int)
          · go_wp2
            go_ret
            exact ⟨_, rfl, rfl⟩
          · by_cases hbig2 : (1048576 : Int) < r1 + ((S1 k1).size : Int)
            · go_wp2
              go_ret
              exact ⟨_, rfl, rfl⟩
            go_wp2
            go_round
            case rel => exact ⟨k1 + 1, r1 + ((S1 k1).size : Int), by omega, by go_num, rfl, by omega, by omega⟩
            case measure => simp [intOf]; omega
        · by_cases g4 : (1048576 : Int) < (s.size : Int)
          · go_wp2
            go_ret
            exact ⟨_, rfl, rfl⟩
          by_cases g5 : (1048576 : Int) < r1 + (s.size : Int)
          · go_wp2
            go_ret
            exact ⟨_, rfl, rfl⟩
          go_wp2
          go_ret
          exact ⟨_, rfl, rfl⟩

end Go.Proofs.Qxb6600902aDoor
