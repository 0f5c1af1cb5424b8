/-
  THE WALKS: zzBytes_FnIsHostLabelCaseBlind (23), zzUpperModel (18), the law FnIsHostLabelCaseBlind (7).
-/
import Derived.Test.Qxb6600927aWalksB
import Derived.Test.Qxb6600927aWalksH
import Derived.Deep.OwnRows
namespace Go.Proofs.Qxb6600927a
open Go.RowKit

/-- It hands back a Bool, and nothing has turned. -/
def SomeBoolC (w : World) (e : Ending) (w' : World) : Prop := ∃ b : Bool, e = .returned (.bool b) ∧ w' = w

theorem bytes23 (s : ByteArray) (w : World) (hs : s.size ≤ 9223372036854775807) : Calls Try.prog 23 #[.string s] w fun e w' => SomeBoolC w e w' := by
  by_cases g : (1048576 : Int) < (s.size : Int)
  · go_enter Try.func23, Try.ntmps23
    go_wp2
    go_ret
    exact ⟨_, rfl, rfl⟩
  · go_enter Try.func23, Try.ntmps23
    go_wp2
    go_ret
    exact ⟨_, rfl, rfl⟩

theorem info5 : (Try.prog.info? 5).map (fun i => (i.zero, i.size, i.bytes)) = some (some (.int .u8 0), 1, 1) := by kernel_rfl

/-- The first k bytes are turned by g; noughts behind them. -/
def grown (g : UInt8 → UInt8) (l : List UInt8) (k : Nat) : List UInt8 := (l.take k).map g ++ List.replicate (l.length - k) 0
theorem grown_length (g : UInt8 → UInt8) (l : List UInt8) (k : Nat) (h : k ≤ l.length) : (grown g l k).length = l.length := by simp [grown]; omega
theorem grown_all (g : UInt8 → UInt8) (l : List UInt8) (k : Nat) (h : l.length ≤ k) : grown g l k = l.map g := by
  unfold grown
  rw [List.take_of_length_le h, show l.length - k = 0 by omega]
  simp
theorem grown_succ (g : UInt8 → UInt8) (l : List UInt8) (k : Nat) (h : k < l.length) : grown g l (k + 1) = (grown g l k).set k (g l[k]) := by
  unfold grown
  rw [List.set_append_right _ _ (by simp; omega)]
  simp only [List.length_map, List.length_take, Nat.min_eq_left (Nat.le_of_lt h), Nat.sub_self]
  rw [List.take_succ_eq_append_getElem h, List.map_append, show l.length - k = (l.length - (k + 1)) + 1 by omega, List.replicate_succ]
  simp only [List.map_cons, List.map_nil, List.set_cons_zero, List.append_assoc, List.cons_append, List.nil_append]

theorem Row.made (w : World) (l : List UInt8) (g : UInt8 → UInt8) : Row (w.alloc (.cells (madeCells #[.int .u8 0] l.length) 5)) w.heap.size (grown g l 0) := by
  refine ⟨madeCells #[.int .u8 0] l.length, 5, 0, 0, Go.Deep.blk_alloc_new _ _, by rw [size_madeCells, grown_length _ _ _ (Nat.zero_le _)]; exact Nat.le_refl _, fun j _ => by simp, fun j hj => ?_⟩
  have hj' : j < l.length := by rwa [grown_length _ _ _ (Nat.zero_le _)] at hj
  simp [grown, madeCells, hj', Nat.mod_one]

set_option maxHeartbeats 1000000 in
theorem upper (s : ByteArray) (w : World) (hs : s.size ≤ 1048576) : Calls Try.prog 18 #[.string s] w fun e w' => Turned up s w e w' := by
  have hmk := run_make_row' (P := Try.prog) 36 5 (.int .u8 0) 1 Try.underlying36 info5 rfl .i64 .i64 s.size (by omega) (by omega)
  have hrow := Row.made w s.data.toList up
  rw [list_len] at hrow
  go_enter Try.func18, Try.ntmps18
  go_wp2
  go_loopw [4] (fun i wr => ∃ k : Nat, k ≤ s.size ∧ i = .int .i64 k ∧ Row wr w.heap.size (grown up s.data.toList k) ∧ Below w.heap.size w wr) (fun i _ => s.size - (intOf i).toNat)
  case atStart => exact ⟨0, Nat.zero_le _, rfl, hrow, (Below.refl _ _).alloc (Nat.le_refl _) _⟩
  case round =>
    obtain ⟨k, hk, rfl, hr, hbel⟩ := hrel
    clear hrow hmk
    by_cases hlt : k < s.size
    · have hl : k < s.data.toList.length := hlt
      have hpl : k < (grown up s.data.toList k).length := by rw [grown_length _ _ _ (Nat.le_of_lt hl)]; exact hl
      obtain ⟨v, d0⟩ : ∃ v : Int, wr.cell? ⟨w.heap.size, k, none⟩ = some (.int .u8 v) := ⟨_, hr.cell k hpl⟩
      have f0 := hr.frozen k hpl
      have hset := hr.set k hpl (up s[k])
      rw [← list_get s k hlt, ← grown_succ up s.data.toList k hl, list_get s k hlt] at hset
      clear hr
      go_wp2_with fail
      refine (upperOf s[k] wr).mono ?_
      rintro e w2 ⟨rfl, rfl⟩
      go_wp2_with fail
      go_roundw
      case rel => exact ⟨k + 1, by omega, by go_num, hset, hbel.setCell (Nat.le_refl _) _⟩
      case measure => simp [intOf]; omega
    · have hcv := hr.conv s.size s.size (by rw [grown_length _ _ _ (by rw [list_len]; exact hk), list_len])
      rw [grown_all up _ k (by rw [list_len]; omega), mapB_list] at hcv
      go_wp2
      go_ret
      exact ⟨rfl, hbel⟩

set_option maxHeartbeats 1000000 in
theorem lawBlind (s : ByteArray) (w : World) (hs : s.size ≤ 9223372036854775807) :
    Calls Try.prog 7 #[.string s] w fun e w' => e = .returned (.bool true) ∧ Below w.heap.size w w' := by
  go_enter Try.func7, Try.ntmps7
  go_wp2_with fail
  refine (bytes23 s w hs).mono ?_
  rintro e w1 ⟨b, rfl, rfl⟩
  cases b with
  | false =>
    go_wp2_with fail
    go_ret
    exact ⟨rfl, Below.refl _ _⟩
  | true =>
    by_cases g : (1048576 : Int) < (s.size : Int)
    · go_wp2_with fail
      go_ret
      exact ⟨rfl, Below.refl _ _⟩
    by_cases hz : s.size = 0
    · have hz' : ((s.size : Int) == 0) = true := by rw [beq_iff_eq]; omega
      clear hz
      go_wp2_with fail
      go_ret
      exact ⟨rfl, Below.refl _ _⟩
    have h0 : 0 < s.size := by omega
    have hz' : ((s.size : Int) == 0) = false := by rw [beq_eq_false_iff_ne]; omega
    clear hz
    have e1 := label_map host_low low_hyphen s
    have e2 := label_map host_up up_hyphen s
    have z1 := mapB_size low s
    have z2 := mapB_size up s
    go_wp2_with fail
    refine (ZZlabel s _ h0 hs).mono ?_
    rintro e w2 ⟨rfl, rfl⟩
    go_wp2_with fail
    refine (ZZfold s _ hs).mono ?_
    rintro e w3 ⟨rfl, hb3⟩
    go_wp2_with fail
    refine (ZZlabel _ _ (by omega) (by omega)).mono ?_
    rintro e w4 ⟨rfl, rfl⟩
    rw [e1]
    clear e1
    go_wp2_with fail
    refine (upper s _ (by omega)).mono ?_
    rintro e w5 ⟨rfl, hb5⟩
    go_wp2_with fail
    refine (ZZlabel _ _ (by omega) (by omega)).mono ?_
    rintro e w6 ⟨rfl, rfl⟩
    rw [e2]
    clear e2
    go_wp2_with fail
    go_ret
    exact ⟨rfl, hb3.trans (hb5.mono hb3.size)⟩

end Go.Proofs.Qxb6600927a
