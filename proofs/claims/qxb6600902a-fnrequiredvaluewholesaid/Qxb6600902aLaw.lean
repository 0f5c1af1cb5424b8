/-
  THE LAW's OWN WALK: FnRequiredValueWhole (3), out of its callees' contracts.
-/
import Derived.Test.Qxb6600902aWalksB
import Derived.Test.Qxb6600902aWalksD
namespace Go.Proofs.Qxb6600902a
open Go.RowKit

set_option maxHeartbeats 1000000 in
theorem law (a0 : Option Addr) (n0 c0 : Nat) (S0 : Nat → ByteArray) (a1 : Option Addr) (n1 c1 : Nat) (S1 : Nat → ByteArray) (s : ByteArray) (w : World) (h0 : IsStrs w a0 n0 S0) (h1 : IsStrs w a1 n1 S1) (hs : s.size ≤ 9223372036854775807) :
    Calls Try.prog 3 #[.slice a0 n0 c0, .slice a1 n1 c1, .string s] w fun e w' => e = .returned (.bool true) ∧ Below w.heap.size w w' := by
  go_enter Try.func3, Try.ntmps3
  go_wp2_with fail
  refine (bytesWhole a0 n0 c0 S0 a1 n1 c1 S1 s w h0 h1 hs).mono ?_
  rintro e w1 ⟨b, rfl, rfl⟩
  cases b with
  | false =>
    go_wp2_with fail
    go_ret
    exact ⟨rfl, Below.refl _ _⟩
  | true =>
    go_wp2_with fail
    refine (listBytes a0 n0 c0 S0 1048576 _ h0 (by omega) (by omega)).mono ?_
    rintro e w2 ⟨r1, hr1, hr1', rfl, rfl⟩
    go_wp2_with fail
    refine (listBytes a1 n1 c1 S1 r1 _ h1 (by omega) (by omega)).mono ?_
    rintro e w3 ⟨r2, hr2, hr2', rfl, rfl⟩
    go_wp2_with fail
    refine (lenLeft _ r2 _ (by omega) (by omega) (by omega)).mono ?_
    rintro e w4 ⟨r3, hr3, hr3', rfl, rfl⟩
    by_cases hneg : r3 < 0
    · go_wp2_with fail
      go_ret
      exact ⟨rfl, Below.refl _ _⟩
    go_wp2_with fail
    refine (pairs a0 n0 c0 S0 a1 n1 c1 S1 _ h0 h1).mono ?_
    rintro e w5 ⟨rfl, hP, hb5⟩
    go_wp2_with fail
    refine (ZZrequired _ n0 n0 S0 (atOr S1 n1) s _ hP).mono ?_
    rintro e w6 ⟨rfl, hb6⟩
    have hb56 := hb5.trans (hb6.mono hb5.size)
    have h0' := h0.below hb56
    have h1' := h1.below hb56
    have hfb := fst_bd S0 s n0
    have hfn := fst_neg S0 s n0
    by_cases hc1 : cnt S0 s n0 = 1
    · obtain ⟨j, hj⟩ : ∃ j : Nat, fstAt S0 s n0 = (j : Int) := ⟨(fstAt S0 s n0).toNat, by omega⟩
      have hp : pick S0 (atOr S1 n1) s n0 = atOr S1 n1 j := by rw [pick_one hc1, hj]; rfl
      have hcn := countName a0 n0 c0 S0 s w6 h0'
      rw [hc1, hj] at hcn
      rw [hp, decide_eq_true hc1]
      have hj63 : j ≤ 9223372036854775807 := by have := h0.1; omega
      clear hp hfb hfn hj hc1
      go_wp2_with fail
      refine hcn.mono ?_
      rintro e w7 ⟨rfl, rfl⟩
      clear hcn
      go_wp2_with fail
      refine (valueAt a1 n1 c1 S1 j _ h1' hj63).mono ?_
      rintro e w8 ⟨rfl, rfl⟩
      go_wp2_with fail
      go_ret
      exact ⟨rfl, hb56⟩
    · have hp : pick S0 (atOr S1 n1) s n0 = ByteArray.empty := pick_none hc1
      have hcn := countName a0 n0 c0 S0 s w6 h0'
      have hne : ((cnt S0 s n0 : Int) == 1) = false := by rw [beq_eq_false_iff_ne]; omega
      rw [hp, decide_eq_false hc1]
      clear hp hfb hfn hc1
      go_wp2_with fail
      refine hcn.mono ?_
      rintro e w7 ⟨rfl, rfl⟩
      clear hcn
      go_wp2_with fail
      go_ret
      exact ⟨rfl, hb56⟩

end Go.Proofs.Qxb6600902a
