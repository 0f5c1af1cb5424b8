/-
  THE WALKS of zzBytes_FnRequiredNumberReadsItsDecimal (20) and of the law FnRequiredNumberReadsItsDecimal (7), out of its callees' contracts.
-/
import Derived.Test.Qxb6600902aDoorWalksB
import Derived.Test.Qxb6600902aDoorUtoa
namespace Go.Proofs.Qxb6600902aDoor
open Go.RowKit

/-- It hands back a Bool, and nothing has turned. -/
def SomeBool (w : World) (e : Ending) (w' : World) : Prop := ∃ b : Bool, e = .returned (.bool b) ∧ w' = w

theorem bytesReads (x : Int) (s : ByteArray) (lim : Int) (w : World) (hs : s.size ≤ 9223372036854775807) :
    Calls Tryd.prog 20 #[.int .u64 x, .string s, .int .u64 lim] w fun e w' => SomeBool w e w' := by
  by_cases g : (1048576 : Int) < (s.size : Int)
  · go_enter Tryd.func20, Tryd.ntmps20
    go_wp2
    go_ret
    exact ⟨_, rfl, rfl⟩
  · go_enter Tryd.func20, Tryd.ntmps20
    go_wp2
    go_ret
    exact ⟨_, rfl, rfl⟩

/-- One pair. -/
theorem one_pair (w : World) (s d : ByteArray) : IsPairs (w.alloc (.cells #[.string s, .string d] 28)) w.heap.size 1 (fun _ => s) (fun _ => d) := by
  refine ⟨by decide, fun i hi => ?_⟩
  obtain rfl : i = 0 := by omega
  exact ⟨by simp, by simp⟩

theorem answer_one (s d : ByteArray) (lim : Int) : answer (fun _ => s) (fun _ => d) s 1 lim = found true d.data.toList lim := by
  have h1 : cnt (fun _ => s) s 1 = 1 := by simp [cnt, eqS]
  unfold answer
  rw [pick_one h1, h1]
  rfl

theorem found_dec {x : Nat} {l : List UInt8} (h : IsDec x l) (hx : x ≤ 18446744073709551615) (lim : Int) : found true l lim = if (x : Int) ≤ lim then some x else none := by
  unfold found
  rw [h.pd hx]
  rfl
theorem found_none {l : List UInt8} (h : pd l = none) (lim : Int) : found true l lim = none := by
  unfold found
  rw [h]
  simp

theorem pre_data (c : UInt8) (d : ByteArray) : ((⟨#[c]⟩ : ByteArray) ++ d).data.toList = c :: d.data.toList := by
  rw [ByteArray.data_append]; simp
theorem pre_size (c : UInt8) (d : ByteArray) : ((⟨#[c]⟩ : ByteArray) ++ d).size = d.size + 1 := by
  rw [ByteArray.size_append]; show 1 + d.size = _; omega

/-- One pair whose value spells nothing: refused. -/
theorem refused (w : World) (s d : ByteArray) (lim : Int) (h : pd d.data.toList = none) (hd : d.size ≤ 21) (h0 : 0 ≤ lim) (he : Errs w) :
    Calls Tryd.prog 16 #[.slice (some ⟨w.heap.size, 0, none⟩) 1 1, .string s, .int .u64 lim] (w.alloc (.cells #[.string s, .string d] 28)) fun e w' =>
      e = .returned (.tuple #[.int .u64 0, .bool false]) ∧ Below w.heap.size w w' := by
  have hA : Hid (answer (fun _ => s) (fun _ => d) s 1 lim = none) := by rw [Hid, answer_one, found_none h]
  refine (ZZnumber _ 1 1 (fun _ => s) (fun _ => d) s lim _ (one_pair w s d) (he.below ((Below.refl _ _).alloc (Nat.le_refl _) _)) (fun i _ => by show d.size ≤ _; omega) h0 none hA).mono ?_
  rintro e w3 ⟨rfl, hb3⟩
  exact ⟨rfl, ((Below.refl _ w).alloc (Nat.le_refl _) _).trans (hb3.mono (by simp))⟩

/-- One pair whose value is x's numeral. -/
theorem taken (w : World) (s d : ByteArray) (lim : Int) (r : Option Nat) (hr : found true d.data.toList lim = r) (hd : d.size ≤ 21) (h0 : 0 ≤ lim) (he : Errs w) :
    Calls Tryd.prog 16 #[.slice (some ⟨w.heap.size, 0, none⟩) 1 1, .string s, .int .u64 lim] (w.alloc (.cells #[.string s, .string d] 28)) fun e w' =>
      e = .returned (.tuple #[.int .u64 ((r.getD 0 : Nat) : Int), .bool r.isSome]) ∧ Below w.heap.size w w' := by
  have hA : Hid (answer (fun _ => s) (fun _ => d) s 1 lim = r) := by rw [Hid, answer_one, hr]
  refine (ZZnumber _ 1 1 (fun _ => s) (fun _ => d) s lim _ (one_pair w s d) (he.below ((Below.refl _ _).alloc (Nat.le_refl _) _)) (fun i _ => by show d.size ≤ _; omega) h0 r hA).mono ?_
  rintro e w3 ⟨rfl, hb3⟩
  exact ⟨rfl, ((Below.refl _ w).alloc (Nat.le_refl _) _).trans (hb3.mono (by simp))⟩

set_option maxHeartbeats 1000000 in
theorem lawReads (x : Nat) (s : ByteArray) (lim : Int) (w : World) (hx : x ≤ 18446744073709551615) (h0 : 0 ≤ lim) (hs : s.size ≤ 9223372036854775807) (he : Errs w) :
    Calls Tryd.prog 7 #[.int .u64 (x : Int), .string s, .int .u64 lim] w fun e w' => e = .returned (.bool true) ∧ Below w.heap.size w w' := by
  go_enter Tryd.func7, Tryd.ntmps7
  go_wp2_with fail
  refine (bytesReads _ s lim w hs).mono ?_
  rintro e w1 ⟨b, rfl, rfl⟩
  cases b with
  | false =>
    go_wp2_with fail
    go_ret
    exact ⟨rfl, Below.refl _ _⟩
  | true =>
    by_cases g : (1048576 : Int) < (s.size : Int)
    · go_wp2_with fail
      go_ret
      exact ⟨rfl, Below.refl _ _⟩
    go_wp2_with fail
    refine (utoa x _ hx).mono ?_
    rintro e w2 ⟨d, hd, rfl, hb2⟩
    have he2 := he.below hb2
    have hds : d.size ≤ 20 := hd.len.2
    have n1 : pd ((⟨#[48]⟩ : ByteArray) ++ d).data.toList = none := by rw [pre_data]; exact hd.pd_nought
    have n2 : pd ((⟨#[43]⟩ : ByteArray) ++ d).data.toList = none := by rw [pre_data]; exact pd_plus _
    have z1 := pre_size 48 d
    have z2 := pre_size 43 d
    have hF := found_dec hd hx lim
    by_cases hxl : (x : Int) ≤ lim
    · rw [if_pos hxl] at hF
      go_wp2_with fail
      refine (taken w2 s d lim _ hF (by omega) h0 he2).mono ?_
      rintro e w3 ⟨rfl, hb3⟩
      clear hF
      have he3 := he2.below hb3
      have hb23 := hb2.trans (hb3.mono hb2.size)
      simp only [Option.getD_some, Option.isSome_some]
      go_wp2_with fail
      refine (refused w3 s _ _ n1 (by omega) (by omega) he3).mono ?_
      rintro e w4 ⟨rfl, hb4⟩
      have he4 := he3.below hb4
      have hb24 := hb23.trans (hb4.mono hb23.size)
      go_wp2_with fail
      refine (refused w4 s _ _ n2 (by omega) (by omega) he4).mono ?_
      rintro e w5 ⟨rfl, hb5⟩
      go_wp2_with fail
      go_ret
      exact ⟨rfl, hb24.trans (hb5.mono hb24.size)⟩
    · rw [if_neg hxl] at hF
      go_wp2_with fail
      refine (taken w2 s d lim _ hF (by omega) h0 he2).mono ?_
      rintro e w3 ⟨rfl, hb3⟩
      clear hF
      have he3 := he2.below hb3
      have hb23 := hb2.trans (hb3.mono hb2.size)
      simp only [Option.getD_none, Option.isSome_none]
      go_wp2_with fail
      refine (refused w3 s _ _ n1 (by omega) (by omega) he3).mono ?_
      rintro e w4 ⟨rfl, hb4⟩
      have he4 := he3.below hb4
      have hb24 := hb23.trans (hb4.mono hb23.size)
      go_wp2_with fail
      refine (refused w4 s _ _ n2 (by omega) (by omega) he4).mono ?_
      rintro e w5 ⟨rfl, hb5⟩
      go_wp2_with fail
      go_ret
      exact ⟨rfl, hb24.trans (hb5.mono hb24.size)⟩

end Go.Proofs.Qxb6600902aDoor
