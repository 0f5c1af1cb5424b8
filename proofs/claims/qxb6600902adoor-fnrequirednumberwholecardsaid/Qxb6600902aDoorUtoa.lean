/-
  THE WALK of zzUtoa (21).
-/
import Derived.Test.Qxb6600902aDoorProg
import Derived.Test.Qxb6600902aDoorPlain
import Derived.WalkKit
import Derived.WalkSpells
import Derived.Deep.OwnRows
import Derived.Laws.IdiomStrings
namespace Go.Proofs.Qxb6600902aDoor
open Go.RowKit

/-- Block B holds twenty bytes, the last of them l, from place m on. -/
def Tail (w : World) (B m : Nat) (l : List UInt8) : Prop :=
  m + l.length = 20 ∧ ∃ f, w.rowIs B 46 20 f ∧ (∀ i, i < 20 → ∃ z, f i = .int .u8 z) ∧ ∀ j (h : j < l.length), f (m + j) = .int .u8 ((l[j].toNat : Nat) : Int)

theorem Tail.step {w : World} {B m : Nat} {l : List UInt8} (h : Tail w B (m + 1) l) (c : UInt8) : Tail (w.setCell ⟨B, m, none⟩ (.int .u8 (c.toNat : Int))) B m (c :: l) := by
  obtain ⟨h1, f, hr, hz, hl⟩ := h
  refine ⟨by simp; omega, _, hr.set m _, fun i hi => ?_, fun j hj => ?_⟩
  · split
    · exact ⟨_, rfl⟩
    · exact hz i hi
  · cases j with
    | zero => simp
    | succ j =>
      have := hl j (by simpa using hj)
      rw [if_neg (by omega), show m + (j + 1) = m + 1 + j by omega, this]
      simp

theorem Tail.start (w : World) : Tail (w.alloc (.cells #[.int .u8 0, .int .u8 0, .int .u8 0, .int .u8 0, .int .u8 0, .int .u8 0, .int .u8 0, .int .u8 0, .int .u8 0, .int .u8 0, .int .u8 0, .int .u8 0, .int .u8 0, .int .u8 0, .int .u8 0, .int .u8 0, .int .u8 0, .int .u8 0, .int .u8 0, .int .u8 0] 46)) w.heap.size 20 [] := by
  refine ⟨rfl, fun _ => .int .u8 0, ?_, fun i _ => ⟨_, rfl⟩, fun j h => by simp at h⟩
  have h := World.rowIs_alloc w (Array.replicate 20 (.int .u8 0)) 46 (fun _ => .int .u8 0) (fun i hi => by
    have hi' : i < 20 := by simpa using hi
    simp [hi'])
  rw [show (#[.int .u8 0, .int .u8 0, .int .u8 0, .int .u8 0, .int .u8 0, .int .u8 0, .int .u8 0, .int .u8 0, .int .u8 0, .int .u8 0, .int .u8 0, .int .u8 0, .int .u8 0, .int .u8 0, .int .u8 0, .int .u8 0, .int .u8 0, .int .u8 0, .int .u8 0, .int .u8 0] : Array Value) = Array.replicate 20 (.int .u8 0) from rfl]
  simpa using h

theorem Tail.conv {w : World} {B m : Nat} {l : List UInt8} (h : Tail w B m l) :
    (convert 26 9 (.slice (some ⟨B, m, none⟩) (20 - m) (20 - m))).run Tryd.prog w = .ok (.string ⟨l.toArray⟩) w := by
  obtain ⟨h1, f, hr, _, hl⟩ := h
  rw [show 20 - m = l.length by omega]
  refine run_convert_bytes_back w 26 9 5 ⟨B, m, none⟩ l.length l Tryd.underlying26 Tryd.underlying5 Tryd.underlying9 (fun j hj => ?_)
  have e : (⟨B, m, none⟩ : Addr).add j = ⟨B, m + j, none⟩ := by unfold Addr.add; split <;> simp_all
  rw [e, hr.cell (by omega), hl j hj]

/-- The k-th digit of x, as the walk stores it. -/
theorem digit_int (x k y : Nat) (h : y = x / 10 ^ k) : (48 + (y : Int) % 10) = (((UInt8.ofNat (48 + x / 10 ^ k % 10)).toNat : Nat) : Int) := by
  rw [digit_toNat, ← h]; omega

/-- 'buf[m:]'. -/
theorem run_slice_buf (B m : Nat) (hm : m < 20) (w : World) :
    (Instr.sliceAt 46 (.pointer (some ⟨B, 0, none⟩)) (some (.int .i64 (m : Int))) none none).run Tryd.prog w = .ok (.slice (some ⟨B, m, none⟩) (20 - m) (20 - m)) w := by
  have e : (⟨B, 0, none⟩ : Addr).add m = ⟨B, m, none⟩ := by unfold Addr.add; split <;> simp_all
  have h1 : (m : Int) ≤ 20 := by omega
  have h2 : ¬ 20 = m := by omega
  simp [Instr.sliceAt, Instr.sureAddr, run_underlying Tryd.underlying46, Instr.sliceBounds, run_sliceBound, Tryd.sizeOf5, h1, h2, e]

/-- The numeral of x comes back; nothing that was there has turned. -/
def Numeral (x : Nat) (w : World) (e : Ending) (w' : World) : Prop := ∃ s : ByteArray, IsDec x s.data.toList ∧ e = .returned (.string s) ∧ Below w.heap.size w w'

set_option maxRecDepth 100000 in
set_option maxHeartbeats 1000000 in
theorem utoa (x : Nat) (w : World) (hx : x ≤ 18446744073709551615) : Calls Tryd.prog 21 #[.int .u64 (x : Int)] w fun e w' => Numeral x w e w' := by
  go_enter Tryd.func21, Tryd.ntmps21
  go_wp2
  go_loopw [0, 4] (fun a i wr => ∃ k m y : Nat, m + k = 20 ∧ Hid (y = x / 10 ^ k) ∧ y ≤ 18446744073709551615 ∧ Hid (k = 0 ∨ 10 ^ k ≤ x) ∧ a = .int .u64 (y : Int) ∧ i = .int .i64 (m : Int) ∧ Tail wr w.heap.size m (digs x k) ∧ Below w.heap.size w wr) (fun _ i _ => (intOf i).toNat)
  case atStart => exact ⟨0, 20, x, rfl, by simp [Hid], hx, .inl rfl, rfl, rfl, Tail.start w, (Below.refl _ _).alloc (Nat.le_refl _) _⟩
  case round =>
    obtain ⟨k, m, y, hmk, hy, hyb, hk, rfl, rfl, htail, hbel⟩ := hrel
    have hk19 : k ≤ 19 := by
      rcases hk.out with h | h
      · omega
      · rcases Nat.lt_or_ge 19 k with h' | h'
        · have := Nat.pow_le_pow_right (show 1 ≤ 10 by decide) h'
          omega
        · exact h'
    obtain ⟨m, rfl⟩ : ∃ m', m = m' + 1 := ⟨m - 1, by omega⟩
    obtain ⟨f, hrow, hz, -⟩ := id htail.2
    obtain ⟨z, hz⟩ := hz m (by omega)
    have d0 := hrow.cell (i := m) (by omega)
    rw [hz] at d0
    have f0 := hrow.frozen m
    clear hrow hz
    have hsl := run_slice_buf w.heap.size m (by omega)
    have htail' := htail.step (UInt8.ofNat (48 + x / 10 ^ k % 10))
    rw [← digit_int x k y hy.out, show UInt8.ofNat (48 + x / 10 ^ k % 10) :: digs x k = digs x (k + 1) from rfl] at htail'
    obtain ⟨l1, hl1⟩ : ∃ l1, l1 = digs x (k + 1) := ⟨_, rfl⟩
    rw [← hl1] at htail'
    have HL : Hid (l1 = digs x (k + 1)) := hl1
    clear hl1 htail
    have hdiv : x / 10 ^ (k + 1) = y / 10 := by rw [hy.out, Nat.pow_succ, Nat.div_div_eq_div_mul]
    have HD : Hid (x / 10 ^ (k + 1) = y / 10) := hdiv
    clear hdiv
    by_cases hy0 : (y : Int) / 10 = 0
    · have hcv := htail'.conv
      have hy1 : ((y : Int) / 10 == 0) = true := by rw [beq_iff_eq]; exact hy0
      have hfin : IsDec x l1 := by
        refine ⟨k + 1, by omega, by omega, ?_, ?_, HL.out⟩
        · have h := HD.out
          rw [show y / 10 = 0 by omega] at h
          rcases Nat.lt_or_ge x (10 ^ (k + 1)) with h' | h'
          · exact h'
          · have := (Nat.le_div_iff_mul_le (Nat.pow_pos (show 0 < 10 by decide))).2 (show 1 * 10 ^ (k + 1) ≤ x by omega)
            omega
        · rcases hk.out with h | h
          · exact .inl (by omega)
          · exact .inr (by simpa using h)
      clear hy0
      go_wp2
      go_ret
      exact ⟨⟨l1.toArray⟩, by simpa using hfin, rfl, hbel.setCell (Nat.le_refl _) _⟩
    · have hy1 : ((y : Int) / 10 == 0) = false := by rw [beq_eq_false_iff_ne]; exact hy0
      have hk1 : 10 ^ (k + 1) ≤ x := by
        have h := HD.out
        have := (Nat.le_div_iff_mul_le (Nat.pow_pos (n := k + 1) (show 0 < 10 by decide))).1 (show 1 ≤ x / 10 ^ (k + 1) by omega)
        omega
      have HK : Hid (k + 1 = 0 ∨ 10 ^ (k + 1) ≤ x) := .inr hk1
      clear hy0 hk1
      go_wp2
      go_roundw
      case rel => exact ⟨k + 1, m, y / 10, by omega, HD.out.symm, by omega, HK, by go_num, rfl, by rw [← HL.out]; exact htail', hbel.setCell (Nat.le_refl _) _⟩
      case measure => simp [intOf]

end Go.Proofs.Qxb6600902aDoor
