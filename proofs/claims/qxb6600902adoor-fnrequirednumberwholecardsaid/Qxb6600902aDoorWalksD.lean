/-
  THE WALKS, on: zzPairs (17): a new row of pairs.
-/
import Derived.Test.Qxb6600902aDoorWalksA
import Derived.Test.Qxb6600902aDoorWalksC
import Derived.Deep.OwnRows
import Derived.Deep.RegionWith
namespace Go.Proofs.Qxb6600902aDoor
open Go.RowKit

theorem Tryd.info28 : (Tryd.prog.info? 28).map (fun i => (i.zero, i.size, i.bytes)) = some (some (.agg #[.string ⟨#[]⟩, .string ⟨#[]⟩]), 2, 32) := by kernel_rfl

theorem IsStrs.below {w w' : World} {a : Option Addr} {n : Nat} {S : Nat → ByteArray} (h : IsStrs w a n S) (hb : Below w.heap.size w w') : IsStrs w' a n S := by
  obtain ⟨h1, h2, h3⟩ := h
  refine ⟨h1, ?_, h3⟩
  rcases h2 with h2 | ⟨b, off, rfl, hc⟩
  · exact .inl h2
  · refine .inr ⟨b, off, rfl, fun i hi => ?_⟩
    have := hc i hi
    rw [← this]
    exact hb.cell (p := ⟨b, off + i, none⟩) (World.block_lt_of_cell? _ _ this)

/-- Zero pairs. -/
def zeroRow (n : Nat) : Array Value := madeCells #[.string ⟨#[]⟩, .string ⟨#[]⟩] (n * 2)

theorem run_make_pairs (n : Nat) (hn : n * 16 ≤ 140737488351232) (w : World) :
    (Instr.makeSlice 23 (.int .i64 (n : Int)) (.int .i64 (n : Int))).run Tryd.prog w = .ok (.slice (some ⟨w.heap.size, 0, none⟩) n n) (w.alloc (.cells (zeroRow n) 28)) := by
  obtain ⟨i, hi, hzz⟩ := Option.map_eq_some_iff.1 Tryd.info28
  simp only [Prod.mk.injEq] at hzz
  obtain ⟨hz, hs, hb⟩ := hzz
  have hr := run_make (P := Tryd.prog) w 23 28 i _ Tryd.underlying23 hi hz .i64 .i64 n n (by omega) (Int.le_refl _) (by rw [hb]; omega) (by omega)
  simp only [Int.toNat_natCast, hs] at hr
  exact hr

/-- Block B holds n pairs of strings, the first k of them these. -/
def Filled (w : World) (B n k : Nat) (N V : Nat → ByteArray) : Prop :=
  ∃ f, w.rowIs B 28 (n * 2) f ∧ (∀ i, i < n * 2 → ∃ s, f i = .string s) ∧ ∀ i, i < k → f (i * 2) = .string (N i) ∧ f (i * 2 + 1) = .string (V i)

theorem filled_zero (w : World) (n : Nat) (N V : Nat → ByteArray) : Filled (w.alloc (.cells (zeroRow n) 28)) w.heap.size n 0 N V := by
  refine ⟨fun _ => .string ⟨#[]⟩, ?_, fun i _ => ⟨_, rfl⟩, fun i hi => by omega⟩
  have h := World.rowIs_alloc w (zeroRow n) 28 (fun _ => .string ⟨#[]⟩) (fun i hi => by
    have hi' : i < n * 2 := by simpa [zeroRow, size_madeCells] using hi
    rcases Nat.mod_two_eq_zero_or_one i with h | h <;> simp [zeroRow, madeCells, hi', h])
  simpa [zeroRow, size_madeCells] using h

theorem Filled.step {w : World} {B n k : Nat} {N V : Nat → ByteArray} (h : Filled w B n k N V) :
    Filled ((w.setCell ⟨B, k * 2, none⟩ (.string (N k))).setCell ⟨B, k * 2 + 1, none⟩ (.string (V k))) B n (k + 1) N V := by
  obtain ⟨f, hr, hs, hk⟩ := h
  refine ⟨_, (hr.set (k * 2) (.string (N k))).set (k * 2 + 1) (.string (V k)), fun i hi => ?_, fun i hi => ?_⟩
  · split
    · exact ⟨_, rfl⟩
    · split
      · exact ⟨_, rfl⟩
      · exact hs i hi
  · by_cases e : i = k
    · subst e; simp
    · have := hk i (by omega)
      rw [if_neg (by omega), if_neg (by omega), if_neg (by omega), if_neg (by omega)]
      exact this

theorem Filled.pairs {w : World} {B n : Nat} {N V : Nat → ByteArray} (h : Filled w B n n N V) (hn : n ≤ 140737488351232) : IsPairs w B n N V := by
  obtain ⟨f, hr, _, hk⟩ := h
  exact ⟨hn, fun i hi => ⟨by rw [hr.cell (by omega), (hk i hi).1], by rw [hr.cell (by omega), (hk i hi).2]⟩⟩

set_option maxHeartbeats 1000000 in
theorem pairs (a0 : Option Addr) (n0 c0 : Nat) (S0 : Nat → ByteArray) (a1 : Option Addr) (n1 c1 : Nat) (S1 : Nat → ByteArray) (w : World) (h0 : IsStrs w a0 n0 S0) (h1 : IsStrs w a1 n1 S1) :
    Calls Tryd.prog 17 #[.slice a0 n0 c0, .slice a1 n1 c1] w fun e w' => e = .returned (.slice (some ⟨w.heap.size, 0, none⟩) n0 n0) ∧ IsPairs w' w.heap.size n0 S0 (atOr S1 n1) ∧ Below w.heap.size w w' := by
  have hn0 := h0.1
  have hmk := run_make_pairs n0 hn0
  go_enter Tryd.func17, Tryd.ntmps17
  go_wp2
  go_loopw [6] (fun i wr => ∃ k : Nat, k ≤ n0 ∧ i = .int .i64 k ∧ Filled wr w.heap.size n0 k S0 (atOr S1 n1) ∧ Below w.heap.size w wr) (fun i _ => n0 - (intOf i).toNat)
  case atStart => exact ⟨0, Nat.zero_le _, rfl, filled_zero _ _ _ _, (Below.refl _ _).alloc (Nat.le_refl _) _⟩
  case round =>
    obtain ⟨k, hk, rfl, hfil, hbel⟩ := hrel
    by_cases hlt : k < n0
    · have h1' := h1.below hbel
      rcases (h0.below hbel).2.1 with h | ⟨b, off, rfl, hc⟩
      · omega
      have hck := hc k hlt
      clear hc
      obtain ⟨f, hrow, hstr, -⟩ := id hfil
      obtain ⟨x0, hx0⟩ := hstr (k * 2) (by omega)
      obtain ⟨x1, hx1⟩ := hstr (k * 2 + 1) (by omega)
      have d0 := hrow.cell (i := k * 2) (by omega)
      have d1 := hrow.cell (i := k * 2 + 1) (by omega)
      rw [hx0] at d0
      rw [hx1] at d1
      have f0 := hrow.frozen (k * 2)
      have f1 := hrow.frozen (k * 2 + 1)
      clear hrow hstr hx0 hx1
      go_wp2
      go_region_with (go_at_call 24; refine (valueAt _ _ _ S1 k _ (h1'.below (by exact ⟨rfl, rfl, rfl, Nat.le_refl _, fun _ _ => rfl⟩)) (by omega)).mono ?_; rintro e w' ⟨rfl, rfl⟩)
      all_goals
        go_wp2
        go_roundw
        case rel => exact ⟨k + 1, by omega, by go_num, hfil.step, ((hbel.setCell (Nat.le_refl _) _).setCell (Nat.le_refl _) _).drew⟩
        case measure => simp [intOf]; omega
    · have hkn : k = n0 := by omega
      subst hkn
      go_wp2
      go_ret
      exact ⟨rfl, hfil.pairs (by omega), hbel⟩

end Go.Proofs.Qxb6600902aDoor
