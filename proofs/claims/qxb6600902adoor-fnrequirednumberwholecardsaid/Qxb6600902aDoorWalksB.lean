/-
  THE WALKS, on: strconv.ParseUint (35) by the shelf's contracts; plainDecimal (32), requiredNumber (23), ZZrequiredNumber (16).
-/
import Derived.Test.Qxb6600902aDoorWalksA
import Derived.Test.Qxb6600902aDoorShelf
import Derived.Test.Qxb6600902aDoorPlain
import Derived.Lib.AtoiErrMem
namespace Go.Proofs.Qxb6600902aDoor
open Go.RowKit

/-- The two variables of strconv's that its errors bear hold interface values. -/
def Errs (w : World) : Prop :=
  (∃ tp p, w.var? Tryd.prog "strconv.ErrSyntax" = some #[.iface tp p]) ∧ ∃ tp p, w.var? Tryd.prog "strconv.ErrRange" = some #[.iface tp p]

theorem var_below {w w' : World} {n : String} {cs : Array Value} (h : w.var? Tryd.prog n = some cs) (hb : Below w.heap.size w w') : w'.var? Tryd.prog n = some cs := by
  unfold World.var? at h ⊢
  cases hg : Tryd.prog.globalNamed n with
  | none => simp [hg] at h
  | some g =>
    simp only [hg, Option.bind_some] at h ⊢
    have hlt : g < w.heap.size := by
      rcases Nat.lt_or_ge g w.heap.size with h' | h'
      · exact h'
      · simp [Array.getElem?_eq_none h'] at h
    rw [hb.block g hlt]
    exact h

theorem Errs.below {w w' : World} (h : Errs w) (hb : Below w.heap.size w w') : Errs w' := by
  obtain ⟨⟨t, p, h1⟩, t', p', h2⟩ := h
  exact ⟨⟨t, p, var_below h1 hb⟩, t', p', var_below h2 hb⟩

/-- How strconv.ParseUint(s, 10, 64) ends. -/
def Parsed (s : ByteArray) (w : World) (e : Ending) (w' : World) : Prop :=
  ((∃ u : Nat, okOf (Lib.parseUintB 64 s.data.toList) = some u ∧ e = .returned (.tuple #[.int .u64 (u : Int), .nilIface])) ∨
   (okOf (Lib.parseUintB 64 s.data.toList) = none ∧ ∃ (n : Int) (N : Nat), e = .returned (.tuple #[.int .u64 n, .iface 69 (.pointer (some ⟨N, 0, none⟩))]))) ∧ Below w.heap.size w w'

theorem parseUint (s : ByteArray) (hlim : s.size ≤ 281474976710656) (w : World) (he : Errs w) :
    Calls Tryd.prog 35 #[.string s, .int .i64 10, .int .i64 64] w fun e w' => Parsed s w e w' := by
  obtain ⟨⟨t, p, h1⟩, t', p', h2⟩ := he
  rcases h : Lib.parseUintB 64 s.data.toList with u | _ | _
  · refine (show Calls Tryd.prog 35 #[.string s, .int .i64 10, .int .i64 64] w _ from Any.strconv_ParseUint_10_at64_ok Tryd.laysPu14 s (by omega) u h w).mono ?_
    rintro e w' ⟨rfl, hw⟩
    refine ⟨.inl ⟨u, by rw [h]; rfl, rfl⟩, ?_⟩
    rcases hw with rfl | rfl
    · exact Below.refl _ _
    · exact Lib.bytesWorld_below _ _ _
  · refine (show Calls Tryd.prog 35 #[.string s, .int .i64 10, .int .i64 64] w _ from Any.strconv_ParseUint_10_at64_syntax_var Tryd.laysPu14 s hlim h t p w h1).mono ?_
    rintro e w' ⟨N, rfl, _, _, hb⟩
    exact ⟨.inr ⟨by rw [h]; rfl, _, N, rfl⟩, hb⟩
  · refine (show Calls Tryd.prog 35 #[.string s, .int .i64 10, .int .i64 64] w _ from Any.strconv_ParseUint_10_at64_range_var Tryd.laysPu14 s hlim h t' p' w h2).mono ?_
    rintro e w' ⟨N, rfl, _, _, hb⟩
    exact ⟨.inr ⟨by rw [h]; rfl, _, N, rfl⟩, hb⟩

theorem head_of (s : ByteArray) (h0 : 0 < s.size) : s.data.toList.head? = some (s[0]'h0) := by
  cases s with
  | mk d =>
    cases d with
    | mk l =>
      cases l with
      | nil => simp [ByteArray.size] at h0
      | cons c r => rfl

theorem lead_yes (s : ByteArray) (h0 : 0 < s.size) (h1 : ((s[0]'h0).toNat : Int) = 48) (h2 : (1 : Int) < (s.size : Int)) : lead s.data.toList = true := by
  have e : s[0]'h0 = 48 := UInt8.toNat_inj.1 (by simp; omega)
  have e2 : s.data.toList.length = s.size := rfl
  unfold lead
  rw [head_of s h0, e, e2]
  simp
  omega

theorem lead_short (s : ByteArray) (h2 : (s.size : Int) ≤ 1) : lead s.data.toList = false := by
  have e2 : s.data.toList.length = s.size := rfl
  unfold lead
  rw [e2, decide_eq_false (by omega), Bool.and_false]

theorem lead_other (s : ByteArray) (h0 : 0 < s.size) (h1 : ¬ ((s[0]'h0).toNat : Int) = 48) : lead s.data.toList = false := by
  have e : s[0]'h0 ≠ 48 := by
    intro e
    rw [e] at h1
    exact h1 rfl
  unfold lead
  rw [head_of s h0, beq_eq_false_iff_ne.2 (fun h => e (Option.some.inj h)), Bool.false_and]

theorem ok_size {s : ByteArray} (h : s.data.toList ≠ []) : 0 < s.size := by
  cases s with
  | mk d =>
    cases d with
    | mk l =>
      cases l with
      | nil => exact absurd rfl h
      | cons c r => simp [ByteArray.size]

theorem plainDecimal (s : ByteArray) (hlim : s.size ≤ 281474976710656) (w : World) (he : Errs w) :
    Calls Tryd.prog 32 #[.string s] w fun e w' => e = .returned (.tuple #[.int .u64 (((pd s.data.toList).getD 0 : Nat) : Int), .bool (pd s.data.toList).isSome]) ∧ Below w.heap.size w w' := by
  go_enter Tryd.func32, Tryd.ntmps32
  go_wp2_with fail
  refine (parseUint s hlim w he).mono ?_
  rintro e w1 ⟨⟨u, hu, rfl⟩ | ⟨hn, n, N, rfl⟩, hb⟩
  · have h0 : 0 < s.size := ok_size (ok_ne_nil hu).1
    have hpd : Hid (pd s.data.toList = if lead s.data.toList = true then none else some u) := pd_ok hu
    clear hu
    go_wp2_with fail
    · have hl := lead_yes s h0 (by assumption) (by assumption)
      go_ret2
      exact ⟨by rw [hpd.out, if_pos hl]; rfl, hb⟩
    · have hl := lead_short s (by assumption)
      go_ret2
      exact ⟨by rw [hpd.out, hl]; rfl, hb⟩
    · have hl := lead_other s h0 (by assumption)
      go_ret2
      exact ⟨by rw [hpd.out, hl]; rfl, hb⟩
  · have hpd : Hid (pd s.data.toList = none) := pd_no hn
    clear hn
    go_wp2_with fail
    go_ret2
    exact ⟨by rw [hpd.out]; rfl, hb⟩

/-- What requiredNumber finds at the text l, if just one pair bears the name. -/
def found (one : Bool) (l : List UInt8) (lim : Int) : Option Nat := if one = true then (if ((pd l).getD 0 : Int) ≤ lim then pd l else none) else none

theorem pd_bound (l : List UInt8) : (pd l).getD 0 ≤ 18446744073709551615 := by
  unfold pd
  split
  · rename_i h; exact h.2
  · exact Nat.zero_le _

/-- requiredNumber behind requiredValue's answer. -/
theorem number_behind (v : Value) (s x : ByteArray) (one : Bool) (lim : Int) (w : World) (hreq : Hid (Calls Tryd.prog 31 #[v, .string s] w fun e w' => e = .returned (.tuple #[.string x, .bool one]) ∧ Below w.heap.size w w'))
    (he : Errs w) (hps : x.size ≤ 281474976710656) (_h0 : 0 ≤ lim) (r : Option Nat) (hr : Hid (found one x.data.toList lim = r)) :
    Calls Tryd.prog 23 #[v, .string s, .int .u64 lim] w fun e w' => e = .returned (.tuple #[.int .u64 ((r.getD 0 : Nat) : Int), .bool r.isSome]) ∧ Below w.heap.size w w' := by
  cases one with
  | false =>
    have e : found false x.data.toList lim = none := by simp [found]
    rw [Hid, e] at hr
    subst hr
    go_enter Tryd.func23, Tryd.ntmps23
    go_wp2_with fail
    refine hreq.out.mono ?_
    rintro e w1 ⟨rfl, hb⟩
    go_wp2_with fail
    go_ret2
    exact ⟨rfl, hb⟩
  | true =>
    have hF : found true x.data.toList lim = if ((pd x.data.toList).getD 0 : Int) ≤ lim then pd x.data.toList else none := by simp [found]
    have hbd := pd_bound x.data.toList
    have hpl : ∀ w, Errs w → Calls Tryd.prog 32 #[.string x] w fun e w' => e = .returned (.tuple #[.int .u64 (((pd x.data.toList).getD 0 : Nat) : Int), .bool (pd x.data.toList).isSome]) ∧ Below w.heap.size w w' := fun w h => plainDecimal x hps w h
    rw [Hid, hF] at hr
    clear hF
    generalize pd x.data.toList = q at hr hbd hpl
    cases q with
    | none =>
      have hr' : r = none := by rw [← hr]; split <;> rfl
      subst hr'
      clear hr hbd
      have H := hpl
      clear hpl
      go_enter Tryd.func23, Tryd.ntmps23
      go_wp2_with fail
      refine hreq.out.mono ?_
      rintro e w1 ⟨rfl, hb⟩
      go_wp2_with fail
      refine (H _ (he.below hb)).mono ?_
      rintro e w2 ⟨rfl, hb2⟩
      go_wp2_with fail
      go_ret2
      exact ⟨rfl, hb.trans (hb2.mono hb.size)⟩
    | some u =>
      simp only [Option.getD_some, Option.isSome_some] at hbd hr hpl
      by_cases hu : (u : Int) ≤ lim
      · rw [if_pos hu] at hr
        subst hr
        have H := hpl
        clear hpl
        go_enter Tryd.func23, Tryd.ntmps23
        go_wp2_with fail
        refine hreq.out.mono ?_
        rintro e w1 ⟨rfl, hb⟩
        go_wp2_with fail
        refine (H _ (he.below hb)).mono ?_
        rintro e w2 ⟨rfl, hb2⟩
        go_wp2_with fail
        go_ret2
        exact ⟨rfl, hb.trans (hb2.mono hb.size)⟩
      · rw [if_neg hu] at hr
        subst hr
        have H := hpl
        clear hpl
        go_enter Tryd.func23, Tryd.ntmps23
        go_wp2_with fail
        refine hreq.out.mono ?_
        rintro e w1 ⟨rfl, hb⟩
        go_wp2_with fail
        refine (H _ (he.below hb)).mono ?_
        rintro e w2 ⟨rfl, hb2⟩
        go_wp2_with fail
        go_ret2
        exact ⟨rfl, hb.trans (hb2.mono hb.size)⟩

/-- What requiredNumber answers at n pairs. -/
def answer (N V : Nat → ByteArray) (s : ByteArray) (n : Nat) (lim : Int) : Option Nat := found (decide (cnt N s n = 1)) (pick N V s n).data.toList lim

theorem requiredNumber (b n c : Nat) (N V : Nat → ByteArray) (s : ByteArray) (lim : Int) (w : World) (hP : IsPairs w b n N V) (he : Errs w) (hv : ∀ i, i < n → (V i).size ≤ 281474976710656) (h0 : 0 ≤ lim) (r : Option Nat) (hr : Hid (answer N V s n lim = r)) :
    Calls Tryd.prog 23 #[.slice (some ⟨b, 0, none⟩) n c, .string s, .int .u64 lim] w fun e w' => e = .returned (.tuple #[.int .u64 ((r.getD 0 : Nat) : Int), .bool r.isSome]) ∧ Below w.heap.size w w' := by
  have hps : (pick N V s n).size ≤ 281474976710656 := by
    by_cases h : cnt N s n = 1
    · rw [pick_one h]
      have h1 := fst_bd N s n
      have h2 := fst_neg N s n
      exact hv _ (by omega)
    · rw [pick_none h]; decide
  exact number_behind _ s (pick N V s n) (decide (cnt N s n = 1)) lim w (required b n c N V s w hP) he hps h0 r hr

theorem ZZnumber (b n c : Nat) (N V : Nat → ByteArray) (s : ByteArray) (lim : Int) (w : World) (hP : IsPairs w b n N V) (he : Errs w) (hv : ∀ i, i < n → (V i).size ≤ 281474976710656) (h0 : 0 ≤ lim) (r : Option Nat) (hr : Hid (answer N V s n lim = r)) :
    Calls Tryd.prog 16 #[.slice (some ⟨b, 0, none⟩) n c, .string s, .int .u64 lim] w fun e w' => e = .returned (.tuple #[.int .u64 ((r.getD 0 : Nat) : Int), .bool r.isSome]) ∧ Below w.heap.size w w' := by
  have H : Hid (∀ i, i < n → (V i).size ≤ 281474976710656) := hv
  clear hv
  go_enter Tryd.func16, Tryd.ntmps16
  go_wp2_with fail
  refine (requiredNumber b n c N V s lim w hP he H.out h0 r hr).mono ?_
  rintro e w1 ⟨rfl, hb⟩
  go_wp2
  go_ret2
  exact ⟨rfl, hb⟩

end Go.Proofs.Qxb6600902aDoor
