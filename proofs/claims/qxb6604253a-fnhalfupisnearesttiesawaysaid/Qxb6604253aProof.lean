/-
  THE PROOF OF 'Rows.FnHalfUpIsNearestTiesAwaySaid': the early returns, the cases joined, and the row (after the shell that came with the seat).
-/
import Derived.Test.Qxb6604253aRows
import Derived.Test.Qxb6604253aLaw
import Derived.ProofKit
import Derived.OpenShut
import Derived.ShutString
namespace Go.Proofs.Qxb6604253a
open Go.ChangeShapes Go.WideShapes Go.ChangeAt Go.RowKit

theorem lawAll (q rest den : Int) (w : World) (b1 : -9223372036854775808 ≤ q) (b2 : q ≤ 9223372036854775807) (b3 : -9223372036854775808 ≤ den) (b4 : den ≤ 9223372036854775807) :
    Calls Try.prog 3 #[.int .i64 q, .int .i64 rest, .int .i64 den] w fun e w' => e = .returned (.bool true) ∧ w' = w := by
  by_cases c1 : den ≤ 0
  · clear b1 b2 b3
    go_enter Try.func3, Try.ntmps3
    go_wp2_with fail
    go_ret
    exact ⟨rfl, rfl⟩
  by_cases c2 : 4611686018427387904 < den
  · go_enter Try.func3, Try.ntmps3
    go_wp2_with fail
    go_ret
    exact ⟨rfl, rfl⟩
  have h1 : 1 ≤ den := by omega
  have h2 : den ≤ 4611686018427387904 := by omega
  clear c1 c2 b3 b4
  by_cases c3 : rest ≤ -den
  · go_enter Try.func3, Try.ntmps3
    go_wp2_with fail
    go_ret
    exact ⟨rfl, rfl⟩
  by_cases c4 : den ≤ rest
  · go_enter Try.func3, Try.ntmps3
    go_wp2_with fail
    go_ret
    exact ⟨rfl, rfl⟩
  have h3 : -den < rest := by omega
  have h4 : rest < den := by omega
  clear c3 c4
  by_cases c5 : q = -9223372036854775808
  · have c6 : (q == -9223372036854775808) = true := by rw [beq_iff_eq]; exact c5
    clear c5
    go_enter Try.func3, Try.ntmps3
    go_wp2_with fail
    go_ret
    exact ⟨rfl, rfl⟩
  by_cases c7 : q = 9223372036854775807
  · have c6 : (q == -9223372036854775808) = false := by rw [beq_eq_false_iff_ne]; omega
    have c8 : (q == 9223372036854775807) = true := by rw [beq_iff_eq]; exact c7
    clear c5 c7
    go_enter Try.func3, Try.ntmps3
    go_wp2_with fail
    go_ret
    exact ⟨rfl, rfl⟩
  have h5 : -9223372036854775807 ≤ q := by omega
  have h6 : q ≤ 9223372036854775806 := by omega
  have m1 : (q == -9223372036854775808) = false := by rw [beq_eq_false_iff_ne]; exact c5
  have m2 : (q == 9223372036854775807) = false := by rw [beq_eq_false_iff_ne]; exact c7
  clear c5 c7 b1 b2
  rcases (show 0 < rest ∨ rest < 0 ∨ (0 ≤ rest ∧ rest ≤ 0) by omega) with r | r | ⟨r, r'⟩
  · rcases (show 0 < q ∨ q < 0 ∨ (0 ≤ q ∧ q ≤ 0) by omega) with k | k | ⟨k, k'⟩
    · by_cases s : den ≤ 2 * rest
      · exact lawUpPos q rest den w h1 h2 h3 h4 h5 h6 k r s
      · exact lawLowPos q rest den w h1 h2 h3 h4 h5 h6 k r (by omega)
    · go_enter Try.func3, Try.ntmps3
      go_wp2_with fail
      go_ret
      exact ⟨rfl, rfl⟩
    · by_cases s : den ≤ 2 * rest
      · exact lawUpZero q rest den w h1 h2 h3 h4 h5 h6 k k' r s
      · exact lawLowZero q rest den w h1 h2 h3 h4 h5 h6 k k' r (by omega)
  · rcases (show 0 < q ∨ q < 0 ∨ (0 ≤ q ∧ q ≤ 0) by omega) with k | k | ⟨k, k'⟩
    · go_enter Try.func3, Try.ntmps3
      go_wp2_with fail
      go_ret
      exact ⟨rfl, rfl⟩
    · by_cases s : den ≤ -2 * rest
      · exact lawDownNeg q rest den w h1 h2 h3 h4 h5 h6 k r s
      · exact lawHighNeg q rest den w h1 h2 h3 h4 h5 h6 k r (by omega)
    · by_cases s : den ≤ -2 * rest
      · exact lawDownZero q rest den w h1 h2 h3 h4 h5 h6 k k' r s
      · exact lawHighZero q rest den w h1 h2 h3 h4 h5 h6 k k' r (by omega)
  · rcases (show 0 < q ∨ q < 0 ∨ (0 ≤ q ∧ q ≤ 0) by omega) with k | k | ⟨k, k'⟩
    · exact lawEvenPos q rest den w h1 h2 h3 h4 h5 h6 k r r'
    · exact lawEvenNeg q rest den w h1 h2 h3 h4 h5 h6 k r r'
    · exact lawEvenZero q rest den w h1 h2 h3 h4 h5 h6 k k' r r'

theorem own : ownKnob Try.prog.godebug = none := by kernel_rfl

set_option maxRecDepth 100000 in
theorem lifted (os : Os) (started : os.Started) (H : Type) (enc : TypeId × Value → H) :
    ReturnsInHanded {} Try.checked os 3 .any (Rows.fnHalfUpIsNearestTiesAwaySpec.pre6 enc Try.prog Try.f3 Rows.fnHalfUpIsNearestTiesAwayRow.domain false) (Rows.fnHalfUpIsNearestTiesAwaySpec.post enc Try.prog Try.f3 false true false false) := by
  refine returnsInHanded_of_change (C := Try.checked) own started (by kernel_rfl) Try.func3
    (ChangeSpec.witness6 (enc := enc) (C := Try.checked) false ⟨#[], #[.int .i64 0, .int .i64 0, .int .i64 0], []⟩ 8 (by kernel_rfl) (by kernel_rfl) (by kernel_rfl) (by kernel_rfl)) ?_
  intro W base args ds gs before hval0 hW _ _
  have hval : ∀ (j : Nat) t v, Try.f3.params[j]? = some t → args[j]? = some v → Value.okWide Try.prog W .any base t v := hval0
  have hW' := hW
  obtain ⟨p, q, hA0, hV, rfl, hfz, hnd⟩ := hW
  have hA : DataW.TrodAll enc Try.prog W 0 (fun _ => true) true Try.f3.params.toList args.toList ds p := hA0
  rw [Try.params3] at hA hval
  obtain ⟨v0, vs0, d0, ds0, p0, q0, hargs, rfl, rfl, h0, r0⟩ := trodAll_cons hA
  obtain ⟨v1, vs1, d1, ds1, p1, q1, rfl, rfl, rfl, h1, r1⟩ := trodAll_cons r0
  obtain ⟨v2, vs2, d2, ds2, p2, q2, rfl, rfl, rfl, h2, r2⟩ := trodAll_cons r1
  obtain ⟨rfl, rfl, rfl⟩ := trodAll_nil r2
  obtain rfl : args = #[v0, v1, v2] := by cases args; simp_all
  obtain ⟨rfl, rfl⟩ := trodVars_none hV
  obtain ⟨a0, rfl, rfl, rfl, w0⟩ := open_int Try.underlying2 (hval 0 2 v0 rfl rfl) h0
  obtain ⟨a1, rfl, rfl, rfl, w1⟩ := open_int Try.underlying2 (hval 1 2 v1 rfl rfl) h1
  obtain ⟨a2, rfl, rfl, rfl, w2⟩ := open_int Try.underlying2 (hval 2 2 v2 rfl rfl) h2
  clear hA0 hval0
  simp only [List.append_nil] at hW'
  have c0 := bounds_i64 w0
  have c2 := bounds_i64 w2
  refine (lawAll a0 a1 a2 W (by omega) (by omega) (by omega) (by omega)).mono fun e W' ⟨he, hw⟩ => ?_
  subst he
  subst hw
  exact ⟨_, rfl, post_of_same (pa := []) (pv := []) hW' (fun _ _ _ => (trodAll_cons_mk (shut_bool Try.underlying4 _) trodAll_mk0)) (fun sp _ => (trodAll_cons_mk (shut_int Try.underlying2 w0) (trodAll_cons_mk (shut_int Try.underlying2 w1) (trodAll_cons_mk (shut_int Try.underlying2 w2) trodAll_mk0)))) (fun _ _ => rfl) rfl
    (World.keptBut_refl _ _) (fun _ => rfl) (ok_one (by kernel_rfl) rfl (okWide_bool_mk Try.underlying4 _))⟩

theorem over : Rows.fnHalfUpIsNearestTiesAwayRow.holds Try.pinned (OpenSpec.ofChange Rows.fnHalfUpIsNearestTiesAwaySpec) :=
  OpenClaim.holds_of_wide 3 Try.f3 rfl rfl rfl rfl rfl rfl rfl ⟨rfl, rfl, rfl, rfl, rfl⟩ rfl rfl rfl rfl rfl (by kernel_rfl) Try.func3 (by kernel_rfl)
    (of_decide_eq_true (by kernel_rfl)) (by unfold Func.isWrapper; first | (rw [if_pos (by decide +kernel)]; kernel_rfl) | (rw [if_neg (by decide +kernel)]; exact ⟨rfl, rfl⟩))
    (fun os started H enc _ => lifted os started H enc)

/-- THE STATEMENT. -/
theorem halfUpIsNearestTiesAway : Rows.FnHalfUpIsNearestTiesAwaySaid := over

end Go.Proofs.Qxb6604253a
