/-
  THE WALKS: zzBytes_FnFoldASCIIFixedPoints (15), zzHasCapital (16), the law FnFoldASCIIFixedPoints (4).
-/
import Derived.Test.Qxb6600927aWalksB
import Derived.Deep.QuietTactic
import Derived.BigQuiet
namespace Go.Proofs.Qxb6600927a
open Go.RowKit

/-- It hands back a Bool, and nothing has turned. -/
def SomeBoolF (w : World) (e : Ending) (w' : World) : Prop := ∃ b : Bool, e = .returned (.bool b) ∧ w' = w

theorem bytes15 (s : ByteArray) (w : World) (hs : s.size ≤ 9223372036854775807) : Calls Try.prog 15 #[.string s] w fun e w' => SomeBoolF w e w' := by
  by_cases g : (1048576 : Int) < (s.size : Int)
  · go_enter Try.func15, Try.ntmps15
    go_wp2
    go_ret
    exact ⟨_, rfl, rfl⟩
  · go_enter Try.func15, Try.ntmps15
    go_wp2
    go_ret
    exact ⟨_, rfl, rfl⟩

theorem below_drewF {W : World} {a : World} (h : Below W.heap.size W a) (n : Nat) : Below W.heap.size W (a.drewN n) := h.trans ⟨rfl, rfl, rfl, Nat.le_refl _, fun _ _ => rfl⟩

theorem cap_take (s : ByteArray) (k : Nat) (h : k < s.size) (h0 : hasCap (s.data.toList.take k) = false) (h1 : low s[k] = s[k]) : hasCap (s.data.toList.take (k + 1)) = false := by
  have e : s.data.toList.take (k + 1) = s.data.toList.take k ++ [s[k]] := by rw [List.take_succ_eq_append_getElem (by simpa using h)]; rfl
  rw [e]
  unfold hasCap at h0 ⊢
  rw [List.any_append, h0]
  simp only [List.any_cons, List.any_nil, Bool.or_false, Bool.false_or, decide_eq_false_iff_not]
  exact (low_fix _).1 h1
theorem cap_here (s : ByteArray) (k : Nat) (h : k < s.size) (h1 : low s[k] ≠ s[k]) : hasCap s.data.toList = true := by
  unfold hasCap
  rw [List.any_eq_true]
  refine ⟨s.data.toList[k]'(by simpa using h), List.getElem_mem _, ?_⟩
  rw [list_get s k h, decide_eq_true_eq]
  exact Decidable.of_not_not (fun hn => h1 (low_no hn))

theorem hasCapital (s : ByteArray) (w : World) (hs : s.size ≤ 9223372036854775807) :
    Calls Try.prog 16 #[.string s] w fun e w' => e = .returned (.bool (hasCap s.data.toList)) ∧ Below w.heap.size w w' := by
  go_enter Try.func16, Try.ntmps16
  go_wp2
  go_loopw [3] (fun i wr => ∃ k : Nat, k ≤ s.size ∧ i = .int .i64 k ∧ Hid (hasCap (s.data.toList.take k) = false) ∧ Below w.heap.size w wr) (fun i _ => s.size - (intOf i).toNat)
  case atStart => exact ⟨0, Nat.zero_le _, rfl, rfl, Below.refl _ _⟩
  case round =>
    obtain ⟨k, hk, rfl, hcap, hbel⟩ := hrel
    by_cases hlt : k < s.size
    · have i1 : (k : Int) < (s.size : Int) := by omega
      by_cases he : low s[k] = s[k]
      · have ht : ((((low s[k]).toNat : Nat) : Int) != ((s[k].toNat : Nat) : Int)) = false := by rw [he]; simp
        have hn : Hid (hasCap (s.data.toList.take (k + 1)) = false) := cap_take s k hlt hcap.out he
        clear he
        go_wp2_with fail
        go_quiet ((go_at_call 14; exact Calls.quiet_of_same (lowerOf _ _)))
        go_wp2_with fail
        go_roundw
        case rel => exact ⟨k + 1, by omega, by go_num, hn, below_drewF hbel _⟩
        case measure => simp [intOf]; omega
      · have ht : ((((low s[k]).toNat : Nat) : Int) != ((s[k].toNat : Nat) : Int)) = true := by
          rw [bne_iff_ne]
          intro e
          exact he (UInt8.toNat_inj.1 (by omega))
        have hy : Hid (hasCap s.data.toList = true) := cap_here s k hlt he
        clear he
        go_wp2_with fail
        go_quiet ((go_at_call 14; exact Calls.quiet_of_same (lowerOf _ _)))
        go_wp2_with fail
        go_ret
        exact ⟨by rw [hy.out]; rfl, below_drewF hbel _⟩
    · have hn : hasCap s.data.toList = false := by
        have := hcap.out
        rwa [List.take_of_length_le (by rw [list_len]; omega)] at this
      have HN : Hid (hasCap s.data.toList = false) := hn
      clear hn
      go_wp2_with fail
      go_ret
      exact ⟨by rw [HN.out]; rfl, hbel⟩

set_option maxHeartbeats 1000000 in
theorem lawFixed (s : ByteArray) (w : World) (hs : s.size ≤ 9223372036854775807) :
    Calls Try.prog 4 #[.string s] w fun e w' => e = .returned (.bool true) ∧ Below w.heap.size w w' := by
  go_enter Try.func4, Try.ntmps4
  go_wp2_with fail
  refine (bytes15 s w hs).mono ?_
  rintro e w1 ⟨b, rfl, rfl⟩
  cases b with
  | false =>
    go_wp2_with fail
    go_ret
    exact ⟨rfl, Below.refl _ _⟩
  | true =>
    by_cases g : (1048576 : Int) < (s.size : Int)
    · go_wp2_with fail
      go_ret
      exact ⟨rfl, Below.refl _ _⟩
    go_wp2_with fail
    refine (ZZfold s _ hs).mono ?_
    rintro e w2 ⟨rfl, hb2⟩
    have hfs : (mapB low s).size ≤ 9223372036854775807 := by rw [mapB_size]; exact hs
    have hff := fold_fold s
    have hcf := hasCap_fold s
    have hsame := fold_same s
    generalize mapB low s = f at hfs hff hcf hsame ⊢
    have hfold := ZZfold f w2 hfs
    unfold Turned at hfold
    rw [hff] at hfold
    have HF := hfold
    clear hff hfold
    go_wp2_with fail
    refine HF.mono ?_
    rintro e w3 ⟨rfl, hb3⟩
    have hb23 := hb2.trans (hb3.mono hb2.size)
    clear HF
    have hcap := hasCapital f w3 hfs
    rw [hcf] at hcap
    have HC := hcap
    clear hcap
    go_wp2_with fail
    refine HC.mono ?_
    rintro e w4 ⟨rfl, hb4⟩
    clear HC
    have hb24 := hb23.trans (hb4.mono hb23.size)
    have hcs := hasCapital s w4 hs
    cases hh : hasCap s.data.toList with
    | false =>
      have hfe : f = s := Go.WideShapes.bytes_inj (hsame.2 hh)
      rw [hh] at hcs
      clear hsame hh
      subst hfe
      have HC := hcs
      clear hcs
      go_wp2_with fail
      refine HC.mono ?_
      rintro e w5 ⟨rfl, hb5⟩
      go_wp2_with fail
      go_ret
      exact ⟨rfl, hb24.trans (hb5.mono hb24.size)⟩
    | true =>
      have hne : (f.toList == s.toList) = false := by
        rw [beq_eq_false_iff_ne]
        intro e
        rw [ByteArray.toList_eq, ByteArray.toList_eq] at e
        rw [hsame.1 e] at hh
        cases hh
      rw [hh] at hcs
      clear hsame hh
      have HC := hcs
      clear hcs
      go_wp2_with fail
      refine HC.mono ?_
      rintro e w5 ⟨rfl, hb5⟩
      go_wp2_with fail
      go_ret
      exact ⟨rfl, hb24.trans (hb5.mono hb24.size)⟩

end Go.Proofs.Qxb6600927a
