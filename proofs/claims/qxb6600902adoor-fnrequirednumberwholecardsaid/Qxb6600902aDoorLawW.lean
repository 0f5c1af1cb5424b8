/-
  THE WALKS of zzNumberModel (18) and of the law FnRequiredNumberWhole (5), out of their callees' contracts.
-/
import Derived.Test.Qxb6600902aDoorWalksB
import Derived.Test.Qxb6600902aDoorWalksD
import Derived.Test.Qxb6600902aDoorWalksE
import Derived.Test.Qxb6600902aDoorWalksF
import Derived.Test.Qxb6600902aDoorUtoa
namespace Go.Proofs.Qxb6600902aDoor
open Go.RowKit

theorem atOr_size {w : World} {a : Option Addr} {n : Nat} {S : Nat → ByteArray} (h : IsStrs w a n S) (j : Nat) : (atOr S n j).size ≤ 9223372036854775807 := by
  unfold atOr
  split
  · exact h.2.2 j (by assumption)
  · decide

theorem answer_not {N V : Nat → ByteArray} {s : ByteArray} {n : Nat} {lim : Int} (h : cnt N s n ≠ 1) : answer N V s n lim = none := by
  unfold answer
  rw [decide_eq_false h]
  simp [found]

theorem answer_yes {N V : Nat → ByteArray} {s : ByteArray} {n j : Nat} {lim : Int} (h : cnt N s n = 1) (hj : fstAt N s n = (j : Int)) : answer N V s n lim = found true (V j).data.toList lim := by
  unfold answer
  rw [decide_eq_true h, pick_one h, hj]
  rfl

theorem found_model {l m : List UInt8} {lim : Nat} (hm : IsDec lim m) (hlim : lim ≤ 18446744073709551615) : found true l (lim : Int) = model l m := by
  rw [model_pd hm hlim]
  simp [found]

theorem model_not {l m : List UInt8} (h : canon l = false) : model l m = none := if_neg (fun h' => by rw [h] at h'; cases h'.1)
theorem model_over {l m : List UInt8} (h : atMost l m = false) : model l m = none := if_neg (fun h' => by rw [h] at h'; cases h'.2)
theorem model_in {l m : List UInt8} (h1 : canon l = true) (h2 : atMost l m = true) : model l m = some (valF 0 l) := if_pos ⟨h1, h2⟩
theorem model_bound {l m : List UInt8} {lim : Nat} (hm : IsDec lim m) (h1 : canon l = true) (h2 : atMost l m = true) : valF 0 l ≤ lim := by
  have := (atMost_val h1 hm.canon).1 h2
  rwa [hm.val] at this

set_option maxHeartbeats 1000000 in
theorem numberModel (a0 : Option Addr) (n0 c0 : Nat) (S0 : Nat → ByteArray) (a1 : Option Addr) (n1 c1 : Nat) (S1 : Nat → ByteArray) (s : ByteArray) (lim : Nat) (w : World) (h0 : IsStrs w a0 n0 S0) (h1 : IsStrs w a1 n1 S1) (hlim : lim ≤ 18446744073709551615)
    (r : Option Nat) (hr : Hid (answer S0 (atOr S1 n1) s n0 (lim : Int) = r)) :
    Calls Tryd.prog 18 #[.slice a0 n0 c0, .slice a1 n1 c1, .string s, .int .u64 (lim : Int)] w fun e w' => e = .returned (.tuple #[.int .u64 ((r.getD 0 : Nat) : Int), .bool r.isSome]) ∧ Below w.heap.size w w' := by
  have hcn := countName a0 n0 c0 S0 s w h0
  by_cases hc1 : cnt S0 s n0 = 1
  · have hfb := fst_bd S0 s n0
    have hfn := fst_neg S0 s n0
    obtain ⟨j, hj⟩ : ∃ j : Nat, fstAt S0 s n0 = (j : Int) := ⟨(fstAt S0 s n0).toNat, by omega⟩
    have hj63 : j ≤ 9223372036854775807 := by have := h0.1; omega
    have hr1 := hr.out
    rw [answer_yes hc1 hj] at hr1
    rw [hc1, hj] at hcn
    have hva := valueAt a1 n1 c1 S1 j w h1 hj63
    have hxs := atOr_size h1 j
    clear hfb hfn hj hc1 hr h0 h1
    generalize atOr S1 n1 j = x at hr1 hva hxs
    have hca := canonical x w hxs
    cases hk : canon x.data.toList with
    | false =>
      have hr2 : r = none := by
        rw [← hr1]
        have : pd x.data.toList = none := if_neg (fun h => by rw [hk] at h; cases h.1)
        simp [found, this]
      subst hr2
      rw [hk] at hca
      clear hr1 hk
      have HC := hcn; have HV := hva; have HA := hca
      clear hcn hva hca
      go_enter Tryd.func18, Tryd.ntmps18
      go_wp2_with fail
      refine HC.mono ?_
      rintro e w1 ⟨rfl, rfl⟩
      go_wp2_with fail
      refine HV.mono ?_
      rintro e w1 ⟨rfl, rfl⟩
      go_wp2_with fail
      refine HA.mono ?_
      rintro e w1 ⟨rfl, rfl⟩
      go_wp2_with fail
      go_ret2
      exact ⟨rfl, Below.refl _ _⟩
    | true =>
      rw [hk] at hca
      have HK : Hid (canon x.data.toList = true) := hk
      have HR : Hid (found true x.data.toList (lim : Int) = r) := hr1
      clear hr1 hk
      have HC := hcn; have HV := hva; have HA := hca
      clear hcn hva hca
      go_enter Tryd.func18, Tryd.ntmps18
      go_wp2_with fail
      refine HC.mono ?_
      rintro e w1 ⟨rfl, rfl⟩
      go_wp2_with fail
      refine HV.mono ?_
      rintro e w1 ⟨rfl, rfl⟩
      go_wp2_with fail
      refine HA.mono ?_
      rintro e w1 ⟨rfl, rfl⟩
      clear HC HV HA
      go_wp2_with fail
      refine (utoa lim _ hlim).mono ?_
      rintro e w2 ⟨d, hd, rfl, hb2⟩
      have hds : d.size ≤ 9223372036854775807 := by have := hd.len.2; have e : d.data.toList.length = d.size := rfl; omega
      go_wp2_with fail
      refine (digitsAtMost x d _ hxs hds).mono ?_
      rintro e w3 ⟨rfl, hb3⟩
      have hb23 := hb2.trans (hb3.mono hb2.size)
      have HM : Hid (model x.data.toList d.data.toList = r) := by rw [Hid, ← HR.out, found_model hd hlim]
      cases hm : atMost x.data.toList d.data.toList with
      | false =>
        have hr2 : r = none := by rw [← HM.out, model_over hm]
        clear hm
        go_wp2_with fail
        go_ret2
        exact ⟨by rw [hr2]; rfl, hb23⟩
      | true =>
        have hr2 : r = some (valF 0 x.data.toList) := by rw [← HM.out, model_in HK.out hm]
        have HR2 : Hid (r = some (valF 0 x.data.toList)) := hr2
        have hbd := model_bound hd HK.out hm
        clear hm hr2
        go_wp2_with fail
        refine (digitsValue x _ hxs (canon_parts HK.out).2.1 (by omega)).mono ?_
        rintro e w4 ⟨rfl, rfl⟩
        go_wp2_with fail
        go_ret2
        exact ⟨by rw [HR2.out]; rfl, hb23⟩
  · have hr2 : r = none := by rw [← hr.out, answer_not hc1]
    subst hr2
    have hne : ((cnt S0 s n0 : Int) != 1) = true := by rw [bne_iff_ne]; omega
    clear hr hc1
    have HC := hcn
    clear hcn
    go_enter Tryd.func18, Tryd.ntmps18
    go_wp2_with fail
    refine HC.mono ?_
    rintro e w1 ⟨rfl, rfl⟩
    go_wp2_with fail
    go_ret2
    exact ⟨rfl, Below.refl _ _⟩

theorem atOr_short {n : Nat} {S : Nat → ByteArray} (h : ∀ i, i < n → (S i).size ≤ 1048576) (j : Nat) : (atOr S n j).size ≤ 281474976710656 := by
  unfold atOr
  split
  · have := h j (by assumption); omega
  · decide

set_option maxHeartbeats 1000000 in
theorem lawWhole (a0 : Option Addr) (n0 c0 : Nat) (S0 : Nat → ByteArray) (a1 : Option Addr) (n1 c1 : Nat) (S1 : Nat → ByteArray) (s : ByteArray) (lim : Nat) (w : World) (h0 : IsStrs w a0 n0 S0) (h1 : IsStrs w a1 n1 S1) (hs : s.size ≤ 9223372036854775807) (hlim : lim ≤ 18446744073709551615) (he : Errs w) :
    Calls Tryd.prog 5 #[.slice a0 n0 c0, .slice a1 n1 c1, .string s, .int .u64 (lim : Int)] w fun e w' => e = .returned (.bool true) ∧ Below w.heap.size w w' := by
  go_enter Tryd.func5, Tryd.ntmps5
  go_wp2_with fail
  refine (bytesWhole a0 n0 c0 S0 a1 n1 c1 S1 s _ w h0 h1 hs).mono ?_
  rintro e w1 ⟨b, rfl, rfl⟩
  cases b with
  | false =>
    go_wp2_with fail
    go_ret
    exact ⟨rfl, Below.refl _ _⟩
  | true =>
    go_wp2_with fail
    refine (listBytes a0 n0 c0 S0 1048576 _ h0 (by omega) (by omega)).mono ?_
    rintro e w2 ⟨r1, hr1, hr1', _, rfl, rfl⟩
    go_wp2_with fail
    refine (listBytes a1 n1 c1 S1 r1 _ h1 (by omega) (by omega)).mono ?_
    rintro e w3 ⟨r2, hr2, hr2', hsm, rfl, rfl⟩
    have HS : Hid (0 ≤ r2 → ∀ i, i < n1 → (S1 i).size ≤ 1048576) := hsm
    clear hsm
    go_wp2_with fail
    refine (lenLeft _ r2 _ (by omega) (by omega) (by omega)).mono ?_
    rintro e w4 ⟨r3, hr3, hr3', hq, rfl, rfl⟩
    by_cases hneg : r3 < 0
    · clear hq
      go_wp2_with fail
      go_ret
      exact ⟨rfl, Below.refl _ _⟩
    have hsh : Hid (∀ i, i < n1 → (S1 i).size ≤ 1048576) := HS.out (hq (by omega))
    clear HS hq
    go_wp2_with fail
    refine (pairs a0 n0 c0 S0 a1 n1 c1 S1 _ h0 h1).mono ?_
    rintro e w5 ⟨rfl, hP, hb5⟩
    have he5 := he.below hb5
    obtain ⟨r, hr⟩ : ∃ r, answer S0 (atOr S1 n1) s n0 (lim : Int) = r := ⟨_, rfl⟩
    have HR : Hid (answer S0 (atOr S1 n1) s n0 (lim : Int) = r) := hr
    clear hr
    go_wp2_with fail
    refine (ZZnumber _ n0 n0 S0 (atOr S1 n1) s _ _ hP he5 (fun i _ => atOr_short hsh.out i) (by omega) r HR).mono ?_
    rintro e w6 ⟨rfl, hb6⟩
    have hb56 := hb5.trans (hb6.mono hb5.size)
    have h0' := h0.below hb56
    have h1' := h1.below hb56
    go_wp2_with fail
    refine (numberModel a0 n0 c0 S0 a1 n1 c1 S1 s lim _ h0' h1' hlim r HR).mono ?_
    rintro e w7 ⟨rfl, hb7⟩
    go_wp2_with fail
    go_ret
    exact ⟨rfl, hb56.trans (hb7.mono hb56.size)⟩

end Go.Proofs.Qxb6600902aDoor
