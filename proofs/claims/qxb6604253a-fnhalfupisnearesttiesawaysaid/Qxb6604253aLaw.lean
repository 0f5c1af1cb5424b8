/-
  THE WALKS: halfUp (5), ZZhalfUp (4), the law FnHalfUpIsNearestTiesAway (3).
-/
import Derived.Test.Qxb6604253aProg
import Derived.WalkKit
import Derived.WalkSpells
namespace Go.Proofs.Qxb6604253a
open Go.RowKit

/-- The step that halfUp takes from q. -/
def stepUp (rest den : Int) : Int := if 0 < rest ∧ den ≤ 2 * rest then 1 else if rest < 0 ∧ den ≤ -2 * rest then -1 else 0

theorem halfUp (q rest den : Int) (w : World) (h1 : 1 ≤ den) (h2 : den ≤ 4611686018427387904) (h3 : -den < rest) (h4 : rest < den) (h5 : -9223372036854775807 ≤ q) (h6 : q ≤ 9223372036854775806) (r : Int) (hr : Hid (q + stepUp rest den = r)) :
    Calls Try.prog 5 #[.int .i64 q, .int .i64 rest, .int .i64 den] w fun e w' => e = .returned (.int .i64 r) ∧ w' = w := by
  unfold stepUp at hr
  by_cases a1 : 0 < rest
  · by_cases a2 : den ≤ 2 * rest
    · have hr' : q + 1 = r := by rw [← hr.out, if_pos ⟨a1, a2⟩]
      subst hr'
      clear hr
      go_enter Try.func5, Try.ntmps5
      go_wp2
      go_ret
      exact ⟨rfl, rfl⟩
    · have hr' : q = r := by rw [← hr.out, if_neg (by omega), if_neg (by omega)]; omega
      subst hr'
      clear hr
      have a3 : ¬ rest < 0 := by omega
      go_enter Try.func5, Try.ntmps5
      go_wp2
      go_ret
      exact ⟨rfl, rfl⟩
  · by_cases a3 : rest < 0
    · by_cases a2 : den ≤ -2 * rest
      · have hr' : q - 1 = r := by rw [← hr.out, if_neg (by omega), if_pos ⟨a3, a2⟩]; omega
        subst hr'
        clear hr
        go_enter Try.func5, Try.ntmps5
        go_wp2
        go_ret
        exact ⟨rfl, rfl⟩
      · have hr' : q = r := by rw [← hr.out, if_neg (by omega), if_neg (by omega)]; omega
        subst hr'
        clear hr
        go_enter Try.func5, Try.ntmps5
        go_wp2
        go_ret
        exact ⟨rfl, rfl⟩
    · have hr' : q = r := by rw [← hr.out, if_neg (by omega), if_neg (by omega)]; omega
      subst hr'
      clear hr
      go_enter Try.func5, Try.ntmps5
      go_wp2
      go_ret
      exact ⟨rfl, rfl⟩

theorem ZZhalfUp (q rest den : Int) (w : World) (h1 : 1 ≤ den) (h2 : den ≤ 4611686018427387904) (h3 : -den < rest) (h4 : rest < den) (h5 : -9223372036854775807 ≤ q) (h6 : q ≤ 9223372036854775806) (r : Int) (hr : Hid (q + stepUp rest den = r)) :
    Calls Try.prog 4 #[.int .i64 q, .int .i64 rest, .int .i64 den] w fun e w' => e = .returned (.int .i64 r) ∧ w' = w := by
  go_enter Try.func4, Try.ntmps4
  go_wp2_with fail
  refine (halfUp q rest den w h1 h2 h3 h4 h5 h6 r hr).mono ?_
  rintro e w1 ⟨rfl, rfl⟩
  go_wp2_with fail
  go_ret
  exact ⟨rfl, rfl⟩

theorem ret_bool {a b : Bool} (h : a = b) : Ending.returned (.bool a) = .returned (.bool b) := by rw [h]

/-! ### The cases, one theorem each: the step that halfUp takes, the sign of q. -/

set_option maxHeartbeats 1000000 in
theorem lawUpPos (q rest den : Int) (w : World) (h1 : 1 ≤ den) (h2 : den ≤ 4611686018427387904) (h3 : -den < rest) (h4 : rest < den) (h5 : -9223372036854775807 ≤ q) (h6 : q ≤ 9223372036854775806) (hq : 0 < q) (a1 : 0 < rest) (a2 : den ≤ 2 * rest) :
    Calls Try.prog 3 #[.int .i64 q, .int .i64 rest, .int .i64 den] w fun e w' => e = .returned (.bool true) ∧ w' = w := by
  have hr : Hid (q + stepUp rest den = q + 1) := by unfold Hid stepUp; rw [if_pos ⟨a1, a2⟩]
  have m1 : (q == -9223372036854775808) = false := by rw [beq_eq_false_iff_ne]; omega
  have m2 : (q == 9223372036854775807) = false := by rw [beq_eq_false_iff_ne]; omega
  by_cases p : den % 2 = 0
  · have pb : (den % 2 == 0) = true := by rw [beq_iff_eq]; exact p
    by_cases t : 2 * rest = den
    · have t1 : den ≤ 2 * rest := by omega
      have t2 : 2 * rest ≤ den := by omega
      have tb : (-((q - (q + 1)) * den + rest) == den / 2) = true := by rw [beq_iff_eq]; omega
      have z : (q + 1 == 0) = false := by rw [beq_eq_false_iff_ne]; omega
      clear t p
      go_enter Try.func3, Try.ntmps3
      go_wp2_with fail
      refine (ZZhalfUp q rest den w h1 h2 h3 h4 h5 h6 (q + 1) hr).mono ?_
      rintro e w1 ⟨rfl, rfl⟩
      clear hr
      go_wp2_with fail
      go_ret
      exact ⟨ret_bool (by simp; try omega), rfl⟩
    · have t1 : den < 2 * rest := by omega
      have tb : (-((q - (q + 1)) * den + rest) == den / 2) = false := by rw [beq_eq_false_iff_ne]; omega
      clear t p
      go_enter Try.func3, Try.ntmps3
      go_wp2_with fail
      refine (ZZhalfUp q rest den w h1 h2 h3 h4 h5 h6 (q + 1) hr).mono ?_
      rintro e w1 ⟨rfl, rfl⟩
      clear hr
      go_wp2_with fail
      go_ret
      exact ⟨rfl, rfl⟩
  · have pb : (den % 2 == 0) = false := by rw [beq_eq_false_iff_ne]; exact p
    clear p
    go_enter Try.func3, Try.ntmps3
    go_wp2_with fail
    refine (ZZhalfUp q rest den w h1 h2 h3 h4 h5 h6 (q + 1) hr).mono ?_
    rintro e w1 ⟨rfl, rfl⟩
    clear hr
    go_wp2_with fail
    go_ret
    exact ⟨rfl, rfl⟩

set_option maxHeartbeats 1000000 in
theorem lawUpZero (q rest den : Int) (w : World) (h1 : 1 ≤ den) (h2 : den ≤ 4611686018427387904) (h3 : -den < rest) (h4 : rest < den) (h5 : -9223372036854775807 ≤ q) (h6 : q ≤ 9223372036854775806) (hq : 0 ≤ q) (hq' : q ≤ 0) (a1 : 0 < rest) (a2 : den ≤ 2 * rest) :
    Calls Try.prog 3 #[.int .i64 q, .int .i64 rest, .int .i64 den] w fun e w' => e = .returned (.bool true) ∧ w' = w := by
  have hr : Hid (q + stepUp rest den = q + 1) := by unfold Hid stepUp; rw [if_pos ⟨a1, a2⟩]
  have m1 : (q == -9223372036854775808) = false := by rw [beq_eq_false_iff_ne]; omega
  have m2 : (q == 9223372036854775807) = false := by rw [beq_eq_false_iff_ne]; omega
  by_cases p : den % 2 = 0
  · have pb : (den % 2 == 0) = true := by rw [beq_iff_eq]; exact p
    by_cases t : 2 * rest = den
    · have t1 : den ≤ 2 * rest := by omega
      have t2 : 2 * rest ≤ den := by omega
      have tb : (-((q - (q + 1)) * den + rest) == den / 2) = true := by rw [beq_iff_eq]; omega
      have z : (q + 1 == 0) = false := by rw [beq_eq_false_iff_ne]; omega
      clear t p
      go_enter Try.func3, Try.ntmps3
      go_wp2_with fail
      refine (ZZhalfUp q rest den w h1 h2 h3 h4 h5 h6 (q + 1) hr).mono ?_
      rintro e w1 ⟨rfl, rfl⟩
      clear hr
      go_wp2_with fail
      go_ret
      exact ⟨ret_bool (by simp; try omega), rfl⟩
    · have t1 : den < 2 * rest := by omega
      have tb : (-((q - (q + 1)) * den + rest) == den / 2) = false := by rw [beq_eq_false_iff_ne]; omega
      clear t p
      go_enter Try.func3, Try.ntmps3
      go_wp2_with fail
      refine (ZZhalfUp q rest den w h1 h2 h3 h4 h5 h6 (q + 1) hr).mono ?_
      rintro e w1 ⟨rfl, rfl⟩
      clear hr
      go_wp2_with fail
      go_ret
      exact ⟨rfl, rfl⟩
  · have pb : (den % 2 == 0) = false := by rw [beq_eq_false_iff_ne]; exact p
    clear p
    go_enter Try.func3, Try.ntmps3
    go_wp2_with fail
    refine (ZZhalfUp q rest den w h1 h2 h3 h4 h5 h6 (q + 1) hr).mono ?_
    rintro e w1 ⟨rfl, rfl⟩
    clear hr
    go_wp2_with fail
    go_ret
    exact ⟨rfl, rfl⟩

set_option maxHeartbeats 1000000 in
theorem lawDownNeg (q rest den : Int) (w : World) (h1 : 1 ≤ den) (h2 : den ≤ 4611686018427387904) (h3 : -den < rest) (h4 : rest < den) (h5 : -9223372036854775807 ≤ q) (h6 : q ≤ 9223372036854775806) (hq : q < 0) (a1 : rest < 0) (a2 : den ≤ -2 * rest) :
    Calls Try.prog 3 #[.int .i64 q, .int .i64 rest, .int .i64 den] w fun e w' => e = .returned (.bool true) ∧ w' = w := by
  have hr : Hid (q + stepUp rest den = q - 1) := by unfold Hid stepUp; rw [if_neg (by omega), if_pos ⟨a1, a2⟩]; omega
  have m1 : (q == -9223372036854775808) = false := by rw [beq_eq_false_iff_ne]; omega
  have m2 : (q == 9223372036854775807) = false := by rw [beq_eq_false_iff_ne]; omega
  by_cases p : den % 2 = 0
  · have pb : (den % 2 == 0) = true := by rw [beq_iff_eq]; exact p
    by_cases t : -2 * rest = den
    · have t1 : den ≤ -2 * rest := by omega
      have t2 : -2 * rest ≤ den := by omega
      have tb : ((q - (q - 1)) * den + rest == den / 2) = true := by rw [beq_iff_eq]; omega
      have z : (q - 1 == 0) = false := by rw [beq_eq_false_iff_ne]; omega
      clear t p
      go_enter Try.func3, Try.ntmps3
      go_wp2_with fail
      refine (ZZhalfUp q rest den w h1 h2 h3 h4 h5 h6 (q - 1) hr).mono ?_
      rintro e w1 ⟨rfl, rfl⟩
      clear hr
      go_wp2_with fail
      go_ret
      exact ⟨ret_bool (by simp; try omega), rfl⟩
    · have t1 : den < -2 * rest := by omega
      have tb : ((q - (q - 1)) * den + rest == den / 2) = false := by rw [beq_eq_false_iff_ne]; omega
      clear t p
      go_enter Try.func3, Try.ntmps3
      go_wp2_with fail
      refine (ZZhalfUp q rest den w h1 h2 h3 h4 h5 h6 (q - 1) hr).mono ?_
      rintro e w1 ⟨rfl, rfl⟩
      clear hr
      go_wp2_with fail
      go_ret
      exact ⟨rfl, rfl⟩
  · have pb : (den % 2 == 0) = false := by rw [beq_eq_false_iff_ne]; exact p
    clear p
    go_enter Try.func3, Try.ntmps3
    go_wp2_with fail
    refine (ZZhalfUp q rest den w h1 h2 h3 h4 h5 h6 (q - 1) hr).mono ?_
    rintro e w1 ⟨rfl, rfl⟩
    clear hr
    go_wp2_with fail
    go_ret
    exact ⟨rfl, rfl⟩

set_option maxHeartbeats 1000000 in
theorem lawDownZero (q rest den : Int) (w : World) (h1 : 1 ≤ den) (h2 : den ≤ 4611686018427387904) (h3 : -den < rest) (h4 : rest < den) (h5 : -9223372036854775807 ≤ q) (h6 : q ≤ 9223372036854775806) (hq : 0 ≤ q) (hq' : q ≤ 0) (a1 : rest < 0) (a2 : den ≤ -2 * rest) :
    Calls Try.prog 3 #[.int .i64 q, .int .i64 rest, .int .i64 den] w fun e w' => e = .returned (.bool true) ∧ w' = w := by
  have hr : Hid (q + stepUp rest den = q - 1) := by unfold Hid stepUp; rw [if_neg (by omega), if_pos ⟨a1, a2⟩]; omega
  have m1 : (q == -9223372036854775808) = false := by rw [beq_eq_false_iff_ne]; omega
  have m2 : (q == 9223372036854775807) = false := by rw [beq_eq_false_iff_ne]; omega
  by_cases p : den % 2 = 0
  · have pb : (den % 2 == 0) = true := by rw [beq_iff_eq]; exact p
    by_cases t : -2 * rest = den
    · have t1 : den ≤ -2 * rest := by omega
      have t2 : -2 * rest ≤ den := by omega
      have tb : ((q - (q - 1)) * den + rest == den / 2) = true := by rw [beq_iff_eq]; omega
      have z : (q - 1 == 0) = false := by rw [beq_eq_false_iff_ne]; omega
      clear t p
      go_enter Try.func3, Try.ntmps3
      go_wp2_with fail
      refine (ZZhalfUp q rest den w h1 h2 h3 h4 h5 h6 (q - 1) hr).mono ?_
      rintro e w1 ⟨rfl, rfl⟩
      clear hr
      go_wp2_with fail
      go_ret
      exact ⟨ret_bool (by simp; try omega), rfl⟩
    · have t1 : den < -2 * rest := by omega
      have tb : ((q - (q - 1)) * den + rest == den / 2) = false := by rw [beq_eq_false_iff_ne]; omega
      clear t p
      go_enter Try.func3, Try.ntmps3
      go_wp2_with fail
      refine (ZZhalfUp q rest den w h1 h2 h3 h4 h5 h6 (q - 1) hr).mono ?_
      rintro e w1 ⟨rfl, rfl⟩
      clear hr
      go_wp2_with fail
      go_ret
      exact ⟨rfl, rfl⟩
  · have pb : (den % 2 == 0) = false := by rw [beq_eq_false_iff_ne]; exact p
    clear p
    go_enter Try.func3, Try.ntmps3
    go_wp2_with fail
    refine (ZZhalfUp q rest den w h1 h2 h3 h4 h5 h6 (q - 1) hr).mono ?_
    rintro e w1 ⟨rfl, rfl⟩
    clear hr
    go_wp2_with fail
    go_ret
    exact ⟨rfl, rfl⟩

set_option maxHeartbeats 1000000 in
theorem lawLowPos (q rest den : Int) (w : World) (h1 : 1 ≤ den) (h2 : den ≤ 4611686018427387904) (h3 : -den < rest) (h4 : rest < den) (h5 : -9223372036854775807 ≤ q) (h6 : q ≤ 9223372036854775806) (hq : 0 < q) (a1 : 0 < rest) (a2 : 2 * rest < den) :
    Calls Try.prog 3 #[.int .i64 q, .int .i64 rest, .int .i64 den] w fun e w' => e = .returned (.bool true) ∧ w' = w := by
  have hr : Hid (q + stepUp rest den = q) := by unfold Hid stepUp; rw [if_neg (by omega), if_neg (by omega)]; omega
  have m1 : (q == -9223372036854775808) = false := by rw [beq_eq_false_iff_ne]; omega
  have m2 : (q == 9223372036854775807) = false := by rw [beq_eq_false_iff_ne]; omega
  by_cases p : den % 2 = 0
  · have pb : (den % 2 == 0) = true := by rw [beq_iff_eq]; exact p
    have tb : ((q - q) * den + rest == den / 2) = false := by rw [beq_eq_false_iff_ne]; omega
    clear p
    go_enter Try.func3, Try.ntmps3
    go_wp2_with fail
    refine (ZZhalfUp q rest den w h1 h2 h3 h4 h5 h6 q hr).mono ?_
    rintro e w1 ⟨rfl, rfl⟩
    clear hr
    go_wp2_with fail
    go_ret
    exact ⟨rfl, rfl⟩
  · have pb : (den % 2 == 0) = false := by rw [beq_eq_false_iff_ne]; exact p
    clear p
    go_enter Try.func3, Try.ntmps3
    go_wp2_with fail
    refine (ZZhalfUp q rest den w h1 h2 h3 h4 h5 h6 q hr).mono ?_
    rintro e w1 ⟨rfl, rfl⟩
    clear hr
    go_wp2_with fail
    go_ret
    exact ⟨rfl, rfl⟩

set_option maxHeartbeats 1000000 in
theorem lawLowZero (q rest den : Int) (w : World) (h1 : 1 ≤ den) (h2 : den ≤ 4611686018427387904) (h3 : -den < rest) (h4 : rest < den) (h5 : -9223372036854775807 ≤ q) (h6 : q ≤ 9223372036854775806) (hq : 0 ≤ q) (hq' : q ≤ 0) (a1 : 0 < rest) (a2 : 2 * rest < den) :
    Calls Try.prog 3 #[.int .i64 q, .int .i64 rest, .int .i64 den] w fun e w' => e = .returned (.bool true) ∧ w' = w := by
  have hr : Hid (q + stepUp rest den = q) := by unfold Hid stepUp; rw [if_neg (by omega), if_neg (by omega)]; omega
  have m1 : (q == -9223372036854775808) = false := by rw [beq_eq_false_iff_ne]; omega
  have m2 : (q == 9223372036854775807) = false := by rw [beq_eq_false_iff_ne]; omega
  by_cases p : den % 2 = 0
  · have pb : (den % 2 == 0) = true := by rw [beq_iff_eq]; exact p
    have tb : ((q - q) * den + rest == den / 2) = false := by rw [beq_eq_false_iff_ne]; omega
    clear p
    go_enter Try.func3, Try.ntmps3
    go_wp2_with fail
    refine (ZZhalfUp q rest den w h1 h2 h3 h4 h5 h6 q hr).mono ?_
    rintro e w1 ⟨rfl, rfl⟩
    clear hr
    go_wp2_with fail
    go_ret
    exact ⟨rfl, rfl⟩
  · have pb : (den % 2 == 0) = false := by rw [beq_eq_false_iff_ne]; exact p
    clear p
    go_enter Try.func3, Try.ntmps3
    go_wp2_with fail
    refine (ZZhalfUp q rest den w h1 h2 h3 h4 h5 h6 q hr).mono ?_
    rintro e w1 ⟨rfl, rfl⟩
    clear hr
    go_wp2_with fail
    go_ret
    exact ⟨rfl, rfl⟩

set_option maxHeartbeats 1000000 in
theorem lawHighNeg (q rest den : Int) (w : World) (h1 : 1 ≤ den) (h2 : den ≤ 4611686018427387904) (h3 : -den < rest) (h4 : rest < den) (h5 : -9223372036854775807 ≤ q) (h6 : q ≤ 9223372036854775806) (hq : q < 0) (a1 : rest < 0) (a2 : -2 * rest < den) :
    Calls Try.prog 3 #[.int .i64 q, .int .i64 rest, .int .i64 den] w fun e w' => e = .returned (.bool true) ∧ w' = w := by
  have hr : Hid (q + stepUp rest den = q) := by unfold Hid stepUp; rw [if_neg (by omega), if_neg (by omega)]; omega
  have m1 : (q == -9223372036854775808) = false := by rw [beq_eq_false_iff_ne]; omega
  have m2 : (q == 9223372036854775807) = false := by rw [beq_eq_false_iff_ne]; omega
  by_cases p : den % 2 = 0
  · have pb : (den % 2 == 0) = true := by rw [beq_iff_eq]; exact p
    have tb : (-((q - q) * den + rest) == den / 2) = false := by rw [beq_eq_false_iff_ne]; omega
    clear p
    go_enter Try.func3, Try.ntmps3
    go_wp2_with fail
    refine (ZZhalfUp q rest den w h1 h2 h3 h4 h5 h6 q hr).mono ?_
    rintro e w1 ⟨rfl, rfl⟩
    clear hr
    go_wp2_with fail
    go_ret
    exact ⟨rfl, rfl⟩
  · have pb : (den % 2 == 0) = false := by rw [beq_eq_false_iff_ne]; exact p
    clear p
    go_enter Try.func3, Try.ntmps3
    go_wp2_with fail
    refine (ZZhalfUp q rest den w h1 h2 h3 h4 h5 h6 q hr).mono ?_
    rintro e w1 ⟨rfl, rfl⟩
    clear hr
    go_wp2_with fail
    go_ret
    exact ⟨rfl, rfl⟩

set_option maxHeartbeats 1000000 in
theorem lawHighZero (q rest den : Int) (w : World) (h1 : 1 ≤ den) (h2 : den ≤ 4611686018427387904) (h3 : -den < rest) (h4 : rest < den) (h5 : -9223372036854775807 ≤ q) (h6 : q ≤ 9223372036854775806) (hq : 0 ≤ q) (hq' : q ≤ 0) (a1 : rest < 0) (a2 : -2 * rest < den) :
    Calls Try.prog 3 #[.int .i64 q, .int .i64 rest, .int .i64 den] w fun e w' => e = .returned (.bool true) ∧ w' = w := by
  have hr : Hid (q + stepUp rest den = q) := by unfold Hid stepUp; rw [if_neg (by omega), if_neg (by omega)]; omega
  have m1 : (q == -9223372036854775808) = false := by rw [beq_eq_false_iff_ne]; omega
  have m2 : (q == 9223372036854775807) = false := by rw [beq_eq_false_iff_ne]; omega
  by_cases p : den % 2 = 0
  · have pb : (den % 2 == 0) = true := by rw [beq_iff_eq]; exact p
    have tb : (-((q - q) * den + rest) == den / 2) = false := by rw [beq_eq_false_iff_ne]; omega
    clear p
    go_enter Try.func3, Try.ntmps3
    go_wp2_with fail
    refine (ZZhalfUp q rest den w h1 h2 h3 h4 h5 h6 q hr).mono ?_
    rintro e w1 ⟨rfl, rfl⟩
    clear hr
    go_wp2_with fail
    go_ret
    exact ⟨rfl, rfl⟩
  · have pb : (den % 2 == 0) = false := by rw [beq_eq_false_iff_ne]; exact p
    clear p
    go_enter Try.func3, Try.ntmps3
    go_wp2_with fail
    refine (ZZhalfUp q rest den w h1 h2 h3 h4 h5 h6 q hr).mono ?_
    rintro e w1 ⟨rfl, rfl⟩
    clear hr
    go_wp2_with fail
    go_ret
    exact ⟨rfl, rfl⟩

set_option maxHeartbeats 1000000 in
theorem lawEvenPos (q rest den : Int) (w : World) (h1 : 1 ≤ den) (h2 : den ≤ 4611686018427387904) (h3 : -den < rest) (h4 : rest < den) (h5 : -9223372036854775807 ≤ q) (h6 : q ≤ 9223372036854775806) (hq : 0 < q) (a1 : 0 ≤ rest) (a2 : rest ≤ 0) :
    Calls Try.prog 3 #[.int .i64 q, .int .i64 rest, .int .i64 den] w fun e w' => e = .returned (.bool true) ∧ w' = w := by
  have hr : Hid (q + stepUp rest den = q) := by unfold Hid stepUp; rw [if_neg (by omega), if_neg (by omega)]; omega
  have m1 : (q == -9223372036854775808) = false := by rw [beq_eq_false_iff_ne]; omega
  have m2 : (q == 9223372036854775807) = false := by rw [beq_eq_false_iff_ne]; omega
  by_cases p : den % 2 = 0
  · have pb : (den % 2 == 0) = true := by rw [beq_iff_eq]; exact p
    have tb : ((q - q) * den + rest == den / 2) = false := by rw [beq_eq_false_iff_ne]; omega
    clear p
    go_enter Try.func3, Try.ntmps3
    go_wp2_with fail
    refine (ZZhalfUp q rest den w h1 h2 h3 h4 h5 h6 q hr).mono ?_
    rintro e w1 ⟨rfl, rfl⟩
    clear hr
    go_wp2_with fail
    go_ret
    exact ⟨rfl, rfl⟩
  · have pb : (den % 2 == 0) = false := by rw [beq_eq_false_iff_ne]; exact p
    clear p
    go_enter Try.func3, Try.ntmps3
    go_wp2_with fail
    refine (ZZhalfUp q rest den w h1 h2 h3 h4 h5 h6 q hr).mono ?_
    rintro e w1 ⟨rfl, rfl⟩
    clear hr
    go_wp2_with fail
    go_ret
    exact ⟨rfl, rfl⟩

set_option maxHeartbeats 1000000 in
theorem lawEvenZero (q rest den : Int) (w : World) (h1 : 1 ≤ den) (h2 : den ≤ 4611686018427387904) (h3 : -den < rest) (h4 : rest < den) (h5 : -9223372036854775807 ≤ q) (h6 : q ≤ 9223372036854775806) (hq : 0 ≤ q) (hq' : q ≤ 0) (a1 : 0 ≤ rest) (a2 : rest ≤ 0) :
    Calls Try.prog 3 #[.int .i64 q, .int .i64 rest, .int .i64 den] w fun e w' => e = .returned (.bool true) ∧ w' = w := by
  have hr : Hid (q + stepUp rest den = q) := by unfold Hid stepUp; rw [if_neg (by omega), if_neg (by omega)]; omega
  have m1 : (q == -9223372036854775808) = false := by rw [beq_eq_false_iff_ne]; omega
  have m2 : (q == 9223372036854775807) = false := by rw [beq_eq_false_iff_ne]; omega
  by_cases p : den % 2 = 0
  · have pb : (den % 2 == 0) = true := by rw [beq_iff_eq]; exact p
    have tb : ((q - q) * den + rest == den / 2) = false := by rw [beq_eq_false_iff_ne]; omega
    clear p
    go_enter Try.func3, Try.ntmps3
    go_wp2_with fail
    refine (ZZhalfUp q rest den w h1 h2 h3 h4 h5 h6 q hr).mono ?_
    rintro e w1 ⟨rfl, rfl⟩
    clear hr
    go_wp2_with fail
    go_ret
    exact ⟨rfl, rfl⟩
  · have pb : (den % 2 == 0) = false := by rw [beq_eq_false_iff_ne]; exact p
    clear p
    go_enter Try.func3, Try.ntmps3
    go_wp2_with fail
    refine (ZZhalfUp q rest den w h1 h2 h3 h4 h5 h6 q hr).mono ?_
    rintro e w1 ⟨rfl, rfl⟩
    clear hr
    go_wp2_with fail
    go_ret
    exact ⟨rfl, rfl⟩

set_option maxHeartbeats 1000000 in
theorem lawEvenNeg (q rest den : Int) (w : World) (h1 : 1 ≤ den) (h2 : den ≤ 4611686018427387904) (h3 : -den < rest) (h4 : rest < den) (h5 : -9223372036854775807 ≤ q) (h6 : q ≤ 9223372036854775806) (hq : q < 0) (a1 : 0 ≤ rest) (a2 : rest ≤ 0) :
    Calls Try.prog 3 #[.int .i64 q, .int .i64 rest, .int .i64 den] w fun e w' => e = .returned (.bool true) ∧ w' = w := by
  have hr : Hid (q + stepUp rest den = q) := by unfold Hid stepUp; rw [if_neg (by omega), if_neg (by omega)]; omega
  have m1 : (q == -9223372036854775808) = false := by rw [beq_eq_false_iff_ne]; omega
  have m2 : (q == 9223372036854775807) = false := by rw [beq_eq_false_iff_ne]; omega
  by_cases p : den % 2 = 0
  · have pb : (den % 2 == 0) = true := by rw [beq_iff_eq]; exact p
    have tb : ((q - q) * den + rest == den / 2) = false := by rw [beq_eq_false_iff_ne]; omega
    clear p
    go_enter Try.func3, Try.ntmps3
    go_wp2_with fail
    refine (ZZhalfUp q rest den w h1 h2 h3 h4 h5 h6 q hr).mono ?_
    rintro e w1 ⟨rfl, rfl⟩
    clear hr
    go_wp2_with fail
    go_ret
    exact ⟨rfl, rfl⟩
  · have pb : (den % 2 == 0) = false := by rw [beq_eq_false_iff_ne]; exact p
    clear p
    go_enter Try.func3, Try.ntmps3
    go_wp2_with fail
    refine (ZZhalfUp q rest den w h1 h2 h3 h4 h5 h6 q hr).mono ?_
    rintro e w1 ⟨rfl, rfl⟩
    clear hr
    go_wp2_with fail
    go_ret
    exact ⟨rfl, rfl⟩

end Go.Proofs.Qxb6604253a
