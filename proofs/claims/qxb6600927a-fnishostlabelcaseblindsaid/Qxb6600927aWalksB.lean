/-
  THE WALKS, on: foldASCII (34), ZZfoldASCII (13), zzUpperModel (18): a new row of bytes, written byte by byte, and back to a string.
-/
import Derived.Test.Qxb6600927aWalksA
import Derived.Laws.IdiomStrings
import Derived.Laws.MakeOwn
import Derived.Deep.Heap
namespace Go.Proofs.Qxb6600927a
open Go.RowKit

/-- Block B holds the bytes l at its head; none of their cells is frozen. -/
def Row (w : World) (B : Nat) (l : List UInt8) : Prop :=
  ∃ (C : Array Value) (t : TypeId) (lo hi : Nat), w.heap[B]? = some (.cells C t (lo, hi)) ∧ l.length ≤ C.size ∧ (∀ j, j < l.length → (decide (lo ≤ j) && decide (j < hi)) = false) ∧ ∀ j (h : j < l.length), C[j]? = some (.int .u8 ((l[j].toNat : Nat) : Int))

theorem Row.cell {w : World} {B : Nat} {l : List UInt8} (h : Row w B l) (j : Nat) (hj : j < l.length) : w.cell? ⟨B, j, none⟩ = some (.int .u8 ((l[j].toNat : Nat) : Int)) := by
  obtain ⟨C, t, lo, hi, hb, _, _, hc⟩ := h
  simp [World.cell?, hb, hc j hj]

theorem Row.frozen {w : World} {B : Nat} {l : List UInt8} (h : Row w B l) (j : Nat) (hj : j < l.length) : w.frozen? ⟨B, j, none⟩ = false := by
  obtain ⟨C, t, lo, hi, hb, _, hf, _⟩ := h
  have := hf j hj
  simp only [World.frozen?, hb]
  exact this

theorem Row.set {w : World} {B : Nat} {l : List UInt8} (h : Row w B l) (i : Nat) (hi : i < l.length) (c : UInt8) : Row (w.setCell ⟨B, i, none⟩ (.int .u8 ((c.toNat : Nat) : Int))) B (l.set i c) := by
  obtain ⟨C, t, lo, hi', hb, hs, hf, hc⟩ := h
  refine ⟨C.setIfInBounds i (.int .u8 ((c.toNat : Nat) : Int)), t, lo, hi', ?_, by simpa using hs, by simpa using hf, fun j hj => ?_⟩
  · simp [World.setCell, Array.getElem?_modify, hb]
  · have hj' : j < l.length := by simpa using hj
    rw [Array.getElem?_setIfInBounds]
    by_cases e : i = j
    · subst e
      simp only [if_true]
      rw [if_pos (by omega)]
      simp
    · rw [if_neg e, hc j hj', List.getElem_set_ne e]

theorem Row.conv {w : World} {B : Nat} {l : List UInt8} (h : Row w B l) (n cap : Nat) (hn : n = l.length) :
    (convert 36 9 (.slice (some ⟨B, 0, none⟩) n cap)).run Try.prog w = .ok (.string ⟨l.toArray⟩) w := by
  subst hn
  refine run_convert_bytes_back w 36 9 5 ⟨B, 0, none⟩ cap l Try.underlying36 Try.underlying5 Try.underlying9 (fun j hj => ?_)
  have e : (⟨B, 0, none⟩ : Addr).add j = ⟨B, j, none⟩ := by unfold Addr.add; split <;> simp_all
  rw [e, h.cell j hj]

/-- The first k bytes turned by g. -/
def part (g : UInt8 → UInt8) (l : List UInt8) (k : Nat) : List UInt8 := (l.take k).map g ++ l.drop k
theorem part_length (g : UInt8 → UInt8) (l : List UInt8) (k : Nat) : (part g l k).length = l.length := by simp [part]; omega
theorem part_zero (g : UInt8 → UInt8) (l : List UInt8) : part g l 0 = l := by simp [part]
theorem part_all (g : UInt8 → UInt8) (l : List UInt8) (k : Nat) (h : l.length ≤ k) : part g l k = l.map g := by
  unfold part
  rw [List.take_of_length_le h, List.drop_eq_nil_of_le h, List.append_nil]
theorem part_at (g : UInt8 → UInt8) (l : List UInt8) (k : Nat) (h : k < l.length) : (part g l k)[k]'(by rw [part_length]; exact h) = l[k] := by
  unfold part
  rw [List.getElem_append_right (by simp; omega)]
  simp [Nat.min_eq_left (Nat.le_of_lt h)]
theorem part_succ (g : UInt8 → UInt8) (l : List UInt8) (k : Nat) (h : k < l.length) : part g l (k + 1) = (part g l k).set k (g l[k]) := by
  unfold part
  rw [List.set_append_right _ _ (by simp; omega)]
  simp only [List.length_map, List.length_take, Nat.min_eq_left (Nat.le_of_lt h), Nat.sub_self]
  rw [List.take_succ_eq_append_getElem h, List.map_append, show l.drop k = l[k] :: l.drop (k + 1) from List.drop_eq_getElem_cons h]
  simp only [List.map_cons, List.map_nil, List.set_cons_zero, List.append_assoc, List.cons_append, List.nil_append]
theorem part_same (g : UInt8 → UInt8) (l : List UInt8) (k : Nat) (h : k < l.length) (hg : g l[k] = l[k]) : part g l (k + 1) = part g l k := by
  rw [part_succ g l k h, hg]
  apply List.ext_getElem
  · simp
  · intro j h1 h2
    by_cases e : k = j
    · subst e
      rw [List.getElem_set_self, part_at g l k h]
    · rw [List.getElem_set_ne e]

theorem Row.born (w : World) (s : ByteArray) (cap : Nat) : Row (w.drew.alloc (.cells (bytesRow s cap) 5 ((bytesRow s cap).size, (bytesRow s cap).size + 1))) w.heap.size s.data.toList := by
  have hs : s.data.toList.length ≤ (bytesRow s cap).size := by simp [bytesRow]
  refine ⟨bytesRow s cap, 5, _, _, Go.Deep.blk_alloc_new _ _, hs, fun j hj => ?_, fun j hj => ?_⟩
  · rw [decide_eq_false (by omega), Bool.false_and]
  · rw [bytesRow_at s cap j (by simpa using hj)]
    simp

/-- It hands back s turned byte by byte; nothing that was there has turned. -/
def Turned (g : UInt8 → UInt8) (s : ByteArray) (w : World) (e : Ending) (w' : World) : Prop := e = .returned (.string (mapB g s)) ∧ Below w.heap.size w w'

theorem list_get (s : ByteArray) (k : Nat) (h : k < s.size) : s.data.toList[k]'(by simpa using h) = s[k] := rfl
theorem list_len (s : ByteArray) : s.data.toList.length = s.size := rfl
theorem mapB_list (g : UInt8 → UInt8) (s : ByteArray) : (⟨(s.data.toList.map g).toArray⟩ : ByteArray) = mapB g s := by
  unfold mapB
  congr 1
  apply Array.ext'
  simp

set_option maxHeartbeats 1000000 in
theorem fold (s : ByteArray) (w : World) (hs : s.size ≤ 9223372036854775807) : Calls Try.prog 34 #[.string s] w fun e w' => Turned low s w e w' := by
  obtain ⟨cap, C, hconv, hrow⟩ : ∃ (cap : Nat) (C : Array Value), (convert 9 36 (.string s)).run Try.prog w = .ok (.slice (some ⟨w.heap.size, 0, none⟩) s.size cap) (w.drew.alloc (.cells C 5 (C.size, C.size + 1))) ∧
      Row (w.drew.alloc (.cells C 5 (C.size, C.size + 1))) w.heap.size s.data.toList :=
    ⟨_, _, run_bytes_of_string w 9 36 5 s Try.underlying9 Try.underlying36 Try.underlying5, Row.born w s _⟩
  go_enter Try.func34, Try.ntmps34
  go_wp2
  go_loopw [10] (fun i wr => ∃ k : Nat, k ≤ s.size ∧ i = .int .i64 k ∧ Row wr w.heap.size (part low s.data.toList k) ∧ Below w.heap.size w wr) (fun i _ => s.size - (intOf i).toNat)
  case atStart => exact ⟨0, Nat.zero_le _, rfl, by rw [part_zero]; exact hrow, ((Below.refl _ _).alloc (Nat.le_refl _) _).drew⟩
  case round =>
    obtain ⟨k, hk, rfl, hr, hbel⟩ := hrel
    clear hrow hconv
    by_cases hlt : k < s.size
    · have hl : k < s.data.toList.length := hlt
      have hpl : k < (part low s.data.toList k).length := by rw [part_length]; exact hl
      have d0 := hr.cell k hpl
      rw [part_at low s.data.toList k hl, list_get s k hlt] at d0
      have f0 := hr.frozen k hpl
      have hset := hr.set k hpl (low s[k])
      by_cases hcap : 65 ≤ s[k].toNat ∧ s[k].toNat ≤ 90
      · have hv : (((low s[k]).toNat : Nat) : Int) = ((s[k].toNat : Nat) : Int) + 97 - 65 := by rw [low_yes hcap]; omega
        rw [hv] at hset
        have HS := part_succ low s.data.toList k hl
        rw [list_get s k hlt] at HS
        rw [← HS] at hset
        have b1 : (65 : Int) ≤ ((s[k].toNat : Nat) : Int) := by omega
        have b2 : ((s[k].toNat : Nat) : Int) ≤ 90 := by omega
        clear HS hv hcap hr
        go_wp2
        go_roundw
        case rel => exact ⟨k + 1, by omega, by go_num, hset, hbel.setCell (Nat.le_refl _) _⟩
        case measure => simp [intOf]; omega
      · have HS := part_same low s.data.toList k hl (by rw [list_get s k hlt]; exact low_no hcap)
        rw [← HS] at hr
        clear HS hset
        by_cases b1 : (65 : Int) ≤ ((s[k].toNat : Nat) : Int)
        · have b2 : ¬ ((s[k].toNat : Nat) : Int) ≤ 90 := by omega
          clear hcap
          go_wp2
          go_roundw
          case rel => exact ⟨k + 1, by omega, by go_num, hr, hbel⟩
          case measure => simp [intOf]; omega
        · clear hcap
          go_wp2
          go_roundw
          case rel => exact ⟨k + 1, by omega, by go_num, hr, hbel⟩
          case measure => simp [intOf]; omega
    · have hcv := hr.conv s.size cap (by rw [part_length, list_len])
      rw [part_all low _ k (by rw [list_len]; omega), mapB_list] at hcv
      go_wp2
      go_ret
      exact ⟨rfl, hbel⟩

theorem ZZfold (s : ByteArray) (w : World) (hs : s.size ≤ 9223372036854775807) : Calls Try.prog 13 #[.string s] w fun e w' => Turned low s w e w' := by
  go_enter Try.func13, Try.ntmps13
  go_wp2_with fail
  refine (fold s w hs).mono ?_
  rintro e w1 ⟨rfl, hb⟩
  go_wp2
  go_ret
  exact ⟨rfl, hb⟩

end Go.Proofs.Qxb6600927a
