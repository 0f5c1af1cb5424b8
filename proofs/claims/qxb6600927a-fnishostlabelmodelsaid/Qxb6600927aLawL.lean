/-
  THE WALKS: zzBytes_FnIsHostLabelModel (20), the law FnIsHostLabelModel (6).
-/
import Derived.Test.Qxb6600927aWalksH
namespace Go.Proofs.Qxb6600927a
open Go.RowKit

/-- It hands back a Bool, and nothing has turned. -/
def SomeBoolL (w : World) (e : Ending) (w' : World) : Prop := ∃ b : Bool, e = .returned (.bool b) ∧ w' = w

theorem bytes20 (s : ByteArray) (w : World) (hs : s.size ≤ 9223372036854775807) : Calls Try.prog 20 #[.string s] w fun e w' => SomeBoolL w e w' := by
  by_cases g : (1048576 : Int) < (s.size : Int)
  · go_enter Try.func20, Try.ntmps20
    go_wp2
    go_ret
    exact ⟨_, rfl, rfl⟩
  · go_enter Try.func20, Try.ntmps20
    go_wp2
    go_ret
    exact ⟨_, rfl, rfl⟩

/-- What the law's loop knows behind k rounds: 'want' is t. -/
def Rel (s : ByteArray) (t : Bool) (k : Nat) : Prop :=
  (t = true → (s.data.toList.take k).all host = true ∧ label s.data.toList = s.data.toList.all host) ∧ (t = false → label s.data.toList = false)

theorem Rel.next {s : ByteArray} {k : Nat} (h : Rel s true k) (hk : k < s.size) (hh : host s[k] = true) : Rel s true (k + 1) :=
  ⟨fun _ => ⟨host_step hk (h.1 rfl).1 hh, (h.1 rfl).2⟩, fun e => by cases e⟩
theorem Rel.fall {s : ByteArray} {k : Nat} (h : Rel s true k) (hk : k < s.size) (hh : host s[k] = false) : Rel s false (k + 1) :=
  ⟨fun e => (by cases e), fun _ => (h.1 rfl).2.trans (host_fall hk hh)⟩
theorem Rel.done {s : ByteArray} {k : Nat} (h : Rel s true k) (hk : ¬ k < s.size) : label s.data.toList = true := (h.1 rfl).2.trans (host_all hk (h.1 rfl).1)

set_option maxHeartbeats 2000000 in
theorem lawLabel (s : ByteArray) (w : World) (hs : s.size ≤ 9223372036854775807) :
    Calls Try.prog 6 #[.string s] w fun e w' => e = .returned (.bool true) ∧ Below w.heap.size w w' := by
  go_enter Try.func6, Try.ntmps6
  go_wp2_with fail
  refine (bytes20 s w hs).mono ?_
  rintro e w1 ⟨b, rfl, rfl⟩
  cases b with
  | false =>
    go_wp2_with fail
    go_ret
    exact ⟨rfl, Below.refl _ _⟩
  | true =>
    by_cases g : (1048576 : Int) < (s.size : Int)
    · go_wp2_with fail
      go_ret
      exact ⟨rfl, Below.refl _ _⟩
    by_cases hz : s.size = 0
    · have hz' : ((s.size : Int) == 0) = true := by rw [beq_iff_eq]; omega
      clear hz
      go_wp2_with fail
      go_ret
      exact ⟨rfl, Below.refl _ _⟩
    have h0 : 0 < s.size := by omega
    have h1 : s.size - 1 < s.size := by omega
    have i0 : (0 : Int) < (s.size : Int) := by omega
    have hz' : ((s.size : Int) == 0) = false := by rw [beq_eq_false_iff_ne]; omega
    clear hz
    by_cases g0 : ((s[0].toNat : Nat) : Int) = 45
    · have hst : Hid (Rel s false 0) := ⟨fun e => (by cases e), fun _ => label_head h0 g0⟩
      have b0 : (((s[0].toNat : Nat) : Int) != 45) = false := by rw [bne_eq_false_iff_eq]; exact g0
      clear g0
      go_wp2_with fail
      go_loop [3, 4] (fun b i => ∃ (k : Nat) (t : Bool), k ≤ s.size ∧ i = .int .i64 k ∧ b = .bool t ∧ Hid (Rel s t k)) (fun _ i => s.size - (intOf i).toNat)
      case atStart => exact ⟨0, _, Nat.zero_le _, rfl, rfl, hst⟩
      case round =>
        obtain ⟨k, t, hk, rfl, rfl, hrl⟩ := hrel
        cases t with
        | false =>
          have hlf : Hid (label s.data.toList = false) := hrl.out.2 rfl
          have hcall := ZZlabel s w1 h0 hs
          rw [hlf.out] at hcall
          have HC := hcall
          clear hcall
          go_wp2_with fail
          refine HC.mono ?_
          rintro e w2 ⟨rfl, rfl⟩
          go_wp2_with fail
          go_ret
          exact ⟨rfl, Below.refl _ _⟩
        | true =>
          by_cases hlt : k < s.size
          · have hin := inHost s[k] w1
            cases hh : host s[k] with
            | true =>
              have hnx : Hid (Rel s true (k + 1)) := hrl.out.next hlt hh
              rw [hh] at hin
              have HC := hin
              clear hin hh
              go_wp2_with fail
              refine HC.mono ?_
              rintro e w2 ⟨rfl, rfl⟩
              go_wp2_with fail
              go_round
              case rel => exact ⟨k + 1, true, by omega, by go_num, rfl, hnx⟩
              case measure => simp [intOf]; omega
            | false =>
              have hnx : Hid (Rel s false (k + 1)) := hrl.out.fall hlt hh
              rw [hh] at hin
              have HC := hin
              clear hin hh
              go_wp2_with fail
              refine HC.mono ?_
              rintro e w2 ⟨rfl, rfl⟩
              go_wp2_with fail
              go_round
              case rel => exact ⟨k + 1, false, by omega, by go_num, rfl, hnx⟩
              case measure => simp [intOf]; omega
          · have hlf : Hid (label s.data.toList = true) := hrl.out.done hlt
            have hcall := ZZlabel s w1 h0 hs
            rw [hlf.out] at hcall
            have HC := hcall
            clear hcall
            go_wp2_with fail
            refine HC.mono ?_
            rintro e w2 ⟨rfl, rfl⟩
            go_wp2_with fail
            go_ret
            exact ⟨rfl, Below.refl _ _⟩
    by_cases g1 : ((s[s.size - 1].toNat : Nat) : Int) = 45
    · have hst : Hid (Rel s false 0) := ⟨fun e => (by cases e), fun _ => label_last h1 g1⟩
      have b0 : (((s[0].toNat : Nat) : Int) != 45) = true := by rw [bne_iff_ne]; exact g0
      have b1 : (((s[s.size - 1].toNat : Nat) : Int) != 45) = false := by rw [bne_eq_false_iff_eq]; exact g1
      clear g0 g1
      go_wp2_with fail
      go_loop [3, 4] (fun b i => ∃ (k : Nat) (t : Bool), k ≤ s.size ∧ i = .int .i64 k ∧ b = .bool t ∧ Hid (Rel s t k)) (fun _ i => s.size - (intOf i).toNat)
      case atStart => exact ⟨0, _, Nat.zero_le _, rfl, rfl, hst⟩
      case round =>
        obtain ⟨k, t, hk, rfl, rfl, hrl⟩ := hrel
        cases t with
        | false =>
          have hlf : Hid (label s.data.toList = false) := hrl.out.2 rfl
          have hcall := ZZlabel s w1 h0 hs
          rw [hlf.out] at hcall
          have HC := hcall
          clear hcall
          go_wp2_with fail
          refine HC.mono ?_
          rintro e w2 ⟨rfl, rfl⟩
          go_wp2_with fail
          go_ret
          exact ⟨rfl, Below.refl _ _⟩
        | true =>
          by_cases hlt : k < s.size
          · have hin := inHost s[k] w1
            cases hh : host s[k] with
            | true =>
              have hnx : Hid (Rel s true (k + 1)) := hrl.out.next hlt hh
              rw [hh] at hin
              have HC := hin
              clear hin hh
              go_wp2_with fail
              refine HC.mono ?_
              rintro e w2 ⟨rfl, rfl⟩
              go_wp2_with fail
              go_round
              case rel => exact ⟨k + 1, true, by omega, by go_num, rfl, hnx⟩
              case measure => simp [intOf]; omega
            | false =>
              have hnx : Hid (Rel s false (k + 1)) := hrl.out.fall hlt hh
              rw [hh] at hin
              have HC := hin
              clear hin hh
              go_wp2_with fail
              refine HC.mono ?_
              rintro e w2 ⟨rfl, rfl⟩
              go_wp2_with fail
              go_round
              case rel => exact ⟨k + 1, false, by omega, by go_num, rfl, hnx⟩
              case measure => simp [intOf]; omega
          · have hlf : Hid (label s.data.toList = true) := hrl.out.done hlt
            have hcall := ZZlabel s w1 h0 hs
            rw [hlf.out] at hcall
            have HC := hcall
            clear hcall
            go_wp2_with fail
            refine HC.mono ?_
            rintro e w2 ⟨rfl, rfl⟩
            go_wp2_with fail
            go_ret
            exact ⟨rfl, Below.refl _ _⟩
    have hst : Hid (Rel s true 0) := ⟨fun _ => ⟨rfl, label_rest h0 h1 g0 g1⟩, fun e => (by cases e)⟩
    have b0 : (((s[0].toNat : Nat) : Int) != 45) = true := by rw [bne_iff_ne]; exact g0
    have b1 : (((s[s.size - 1].toNat : Nat) : Int) != 45) = true := by rw [bne_iff_ne]; exact g1
    clear g0 g1
    go_wp2_with fail
    go_loop [3, 4] (fun b i => ∃ (k : Nat) (t : Bool), k ≤ s.size ∧ i = .int .i64 k ∧ b = .bool t ∧ Hid (Rel s t k)) (fun _ i => s.size - (intOf i).toNat)
    case atStart => exact ⟨0, _, Nat.zero_le _, rfl, rfl, hst⟩
    case round =>
      obtain ⟨k, t, hk, rfl, rfl, hrl⟩ := hrel
      cases t with
      | false =>
        have hlf : Hid (label s.data.toList = false) := hrl.out.2 rfl
        have hcall := ZZlabel s w1 h0 hs
        rw [hlf.out] at hcall
        have HC := hcall
        clear hcall
        go_wp2_with fail
        refine HC.mono ?_
        rintro e w2 ⟨rfl, rfl⟩
        go_wp2_with fail
        go_ret
        exact ⟨rfl, Below.refl _ _⟩
      | true =>
        by_cases hlt : k < s.size
        · have hin := inHost s[k] w1
          cases hh : host s[k] with
          | true =>
            have hnx : Hid (Rel s true (k + 1)) := hrl.out.next hlt hh
            rw [hh] at hin
            have HC := hin
            clear hin hh
            go_wp2_with fail
            refine HC.mono ?_
            rintro e w2 ⟨rfl, rfl⟩
            go_wp2_with fail
            go_round
            case rel => exact ⟨k + 1, true, by omega, by go_num, rfl, hnx⟩
            case measure => simp [intOf]; omega
          | false =>
            have hnx : Hid (Rel s false (k + 1)) := hrl.out.fall hlt hh
            rw [hh] at hin
            have HC := hin
            clear hin hh
            go_wp2_with fail
            refine HC.mono ?_
            rintro e w2 ⟨rfl, rfl⟩
            go_wp2_with fail
            go_round
            case rel => exact ⟨k + 1, false, by omega, by go_num, rfl, hnx⟩
            case measure => simp [intOf]; omega
        · have hlf : Hid (label s.data.toList = true) := hrl.out.done hlt
          have hcall := ZZlabel s w1 h0 hs
          rw [hlf.out] at hcall
          have HC := hcall
          clear hcall
          go_wp2_with fail
          refine HC.mono ?_
          rintro e w2 ⟨rfl, rfl⟩
          go_wp2_with fail
          go_ret
          exact ⟨rfl, Below.refl _ _⟩

end Go.Proofs.Qxb6600927a
