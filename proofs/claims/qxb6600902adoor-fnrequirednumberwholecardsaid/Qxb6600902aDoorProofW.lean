/-
  THE CARD 'Rows.FnRequiredNumberWholeCardSaid': the row round the law's walk (Qxb6600902aDoorLawW), then the card by the builder's one call; the ties are given.
-/
import Derived.Test.Qxb6600902aDoorCards
import Derived.Test.Qxb6600902aDoorTie
import Derived.Test.Qxb6600902aDoorLawW
import Derived.Test.Qxb6600902aDoorLaid
import Derived.OpenShut
import Derived.ShutString
import Derived.SizedLaws
import Derived.SliceStrings
import Derived.Carry
import Derived.SevenTiedAt
namespace Go.Proofs.Qxb6600902aDoor
open Go.ChangeShapes Go.WideShapes Go.ChangeAt Go.RowKit
open Go.ChangeMaps (open_string shut_string)

theorem cells9 : Tryd.prog.cellsOf 9 = 1 := by kernel_rfl
theorem bytes9 : Tryd.prog.bytesOf 9 = 16 := by kernel_rfl

/-- A slice of strings that can be read, as the walks are told of it. -/
theorem isStrs_of {H : Type} {enc : TypeId × Value → H} {W : World} {a : Option Addr} {len cap : Nat} {d : DataW H} {p : List MemPlace} (h : DataW.Trod enc Tryd.prog W 0 (fun _ => true) true 31 (.slice a len cap) d p)
    (hr : ∀ elems spare, d = .slice elems spare → (elems.length + spare.length) * 16 ≤ reachBytes) : ∃ S, IsStrs W a len S := by
  obtain ⟨fuel, hf⟩ := h
  rcases open_strings Tryd.underlying31 Tryd.underlying9 cells9 hf with ⟨hcs, _⟩ | ⟨x, l, c, ss, hcs, _, hl, hm, hz, hx, hcell, hws⟩
  · simp [Value.cells] at hcs
    obtain ⟨rfl, rfl, rfl⟩ := hcs
    exact ⟨fun _ => ByteArray.empty, by omega, .inl rfl, fun i hi => by omega⟩
  · simp [Value.cells] at hcs
    obtain ⟨rfl, rfl, rfl⟩ := hcs
    simp only [Prod.mk.injEq] at hx
    simp only [if_true] at hz
    have h1 := hr _ _ hx.1
    simp only [strs, List.length_map, List.length_take, List.length_drop, reachBytes] at h1
    refine ⟨fun i => ss.getD i ByteArray.empty, by omega, ?_, fun i hi => ?_⟩
    · by_cases h0 : len = 0
      · exact .inl h0
      · obtain ⟨b, off, spot⟩ := x
        have hspot : spot = none := by simpa [Addr.add] using World.cell?_spot (hcell 0 (by omega))
        subst hspot
        exact .inr ⟨b, off, rfl, fun i hi => by rw [← add_plain]; exact hcell i (by omega)⟩
    · have hi' : i < ss.length := by omega
      have := hws (ss[i]) (List.getElem_mem hi')
      unfold maxLen at this
      simpa [List.getD, List.getElem?_eq_getElem hi'] using this

set_option maxRecDepth 100000 in
theorem liftedW (os : Os) (started : os.Started) (H : Type) (enc : TypeId × Value → H) :
    ReturnsInHanded {} Tryd.checked os 5 .any (fun w args => (Rows.fnRequiredNumberWholeSpec.pre enc Tryd.prog Tryd.f5 [] false w args ∧ laidMetH Tryd.prog laidFive w) ∧ sizedMet enc Tryd.prog Tryd.f5 (OpenSpec.ofChange Rows.fnRequiredNumberWholeSpec) false w args)
      (Rows.fnRequiredNumberWholeSpec.post enc Tryd.prog Tryd.f5 false true false false) := by
  refine returnsInHanded_of_change_and (C := Tryd.checked) (X := fun w _ => laidMetH Tryd.prog laidFive w) (fun _ _ _ hh h => h.of_heap hh) own started (by kernel_rfl) Tryd.func5
    (ChangeSpec.witness_shaped (enc := enc) (C := Tryd.checked) (os := os) (X := fun w _ => laidMetH Tryd.prog laidFive w) false (World.doorLaid Tryd.prog 72 os) #[.slice none 0 0, .slice none 0 0, .string ByteArray.empty, .int .u64 0] 8 rfl (World.shaped_of_RefB (by kernel_rfl) (by kernel_rfl)) (by kernel_rfl) (by kernel_rfl) (by kernel_rfl) (door_met os _)) ?_
  intro W base args ds gs before hval0 hW _ hsz0 hL _
  have hsz : (DataW.weightsEach Tryd.prog (Tryd.f5.params.toList ++ Rows.fnRequiredNumberWholeSpec.plain.varTypes Tryd.prog) (ds ++ gs)).all (· ≤ reachBytes) = true := hsz0
  clear hsz0
  have hval : ∀ (j : Nat) t v, Tryd.f5.params[j]? = some t → args[j]? = some v → Value.okWide Tryd.prog W .any base t v := hval0
  have hW' := hW
  obtain ⟨p, q, hA0, hV, rfl, hfz, hnd⟩ := hW
  have hA : DataW.TrodAll enc Tryd.prog W 0 (fun _ => true) true Tryd.f5.params.toList args.toList ds p := hA0
  rw [Tryd.params5] at hA hval hsz
  obtain ⟨v0, vs0, d0, ds0, p0, q0, hargs, rfl, rfl, h0, r0⟩ := trodAll_cons hA
  obtain ⟨v1, vs1, d1, ds1, p1, q1, rfl, rfl, rfl, h1, r1⟩ := trodAll_cons r0
  obtain ⟨v2, vs2, d2, ds2, p2, q2, rfl, rfl, rfl, h2, r2⟩ := trodAll_cons r1
  obtain ⟨v3, vs3, d3, ds3, p3, q3, rfl, rfl, rfl, h3, r3⟩ := trodAll_cons r2
  obtain ⟨rfl, rfl, rfl⟩ := trodAll_nil r3
  obtain rfl : args = #[v0, v1, v2, v3] := by cases args; simp_all
  obtain ⟨rfl, rfl⟩ := trodVars_none hV
  obtain ⟨a0, len0, cap0, rfl⟩ := okWide_slice Tryd.underlying31 (hval 0 31 v0 rfl rfl)
  obtain ⟨a1, len1, cap1, rfl⟩ := okWide_slice Tryd.underlying31 (hval 1 31 v1 rfl rfl)
  have lt0 : ∀ x ∈ p0, x.block < W.heap.size := by obtain ⟨m, hm⟩ := h0; exact DataW.trod_lt m _ _ _ hm
  have lt1 : ∀ x ∈ p1, x.block < W.heap.size := by obtain ⟨m, hm⟩ := h1; exact DataW.trod_lt m _ _ _ hm
  obtain ⟨S0, g0⟩ := isStrs_of h0 (fun elems spare hd => by
    have := sized_slice hsz (j := 0) (t := 31) (e := 9) (elems := elems) (spare := spare) rfl (by rw [hd]; rfl) Tryd.underlying31
    rwa [bytes9] at this)
  obtain ⟨S1, g1⟩ := isStrs_of h1 (fun elems spare hd => by
    have := sized_slice hsz (j := 1) (t := 31) (e := 9) (elems := elems) (spare := spare) rfl (by rw [hd]; rfl) Tryd.underlying31
    rwa [bytes9] at this)
  obtain ⟨a2, rfl, rfl, rfl, w2⟩ := open_string Tryd.underlying9 (hval 2 9 v2 rfl rfl) h2
  obtain ⟨a3, rfl, rfl, rfl, w3⟩ := open_int Tryd.underlying32 (hval 3 32 v3 rfl rfl) h3
  clear hA0 hval0
  have b3 := bounds_u64 w3
  obtain ⟨lim, rfl⟩ := Int.eq_ofNat_of_zero_le b3.1
  refine (lawWhole a0 len0 cap0 S0 a1 len1 cap1 S1 a2 lim W g0 g1 w2 (by omega) (errs_of_laid hL)).mono fun e W' ⟨he, bel⟩ => ?_
  subst he
  exact ⟨_, rfl, _, _, _, [], _, [], hW', trodAll_mk1 (shut_bool Tryd.underlying4 _), (trodAll_cons_mk (Below.trod laidOut (by kernel_rfl) (of_decide_eq_true (by kernel_rfl)) h0 bel lt0)
    (trodAll_cons_mk (Below.trod laidOut (by kernel_rfl) (of_decide_eq_true (by kernel_rfl)) h1 bel lt1) (trodAll_cons_mk (shut_string Tryd.underlying9 w2) (trodAll_cons_mk (shut_int Tryd.underlying32 w3) trodAll_mk0)))), rfl, bel.frame _, fun h => by cases h⟩

theorem overW : Rows.FnRequiredNumberWholeSaid :=
  OpenClaim.holds_of_wide 5 Tryd.f5 rfl rfl rfl rfl rfl rfl rfl ⟨rfl, rfl, rfl, rfl, rfl⟩ rfl rfl rfl rfl rfl (by kernel_rfl) Tryd.func5 (by kernel_rfl)
    (of_decide_eq_true (by kernel_rfl)) (by unfold Func.isWrapper; first | (rw [if_pos (by decide +kernel)]; kernel_rfl) | (rw [if_neg (by decide +kernel)]; exact ⟨rfl, rfl⟩))
    (fun os started H enc _ => liftedW os started H enc)

/-- THE STATEMENT: the tied card. -/
theorem requiredNumberWholeCard : Rows.FnRequiredNumberWholeCardSaid :=
  Claim7.holds_tied_plain_at .later [] [.data, .data, .data, .sentinel, .sentinel] true (true, "4ac6fa37908e686ab745c1b5d238a855358ca84174d3e385a93982dafbf1c389") true
    overW (fun _ h => by cases h) (by kernel_rfl) (fun _ h => by cases h) fnRequiredNumberWhole_row_tie rfl ⟨rfl, rfl⟩ (by kernel_rfl) rfl
    (fun f fn hf hfn => by
      obtain rfl : f = 5 := Option.some.inj ((show Tryd.prog.funcNamed Rows.fnRequiredNumberWholeRow.func = some 5 by kernel_rfl).symm.trans hf) |>.symm
      obtain rfl : fn = Tryd.f5 := (Option.some.inj (Tryd.func5.symm.trans hfn)).symm
      exact ⟨by kernel_rfl, fun j t ht => by
        rw [Tryd.params5] at ht
        have hm : t ∈ [31, 31, 9, 32] := by simpa using Array.mem_of_getElem? ht
        have hall : ([31, 31, 9, 32].all fun u => !Tryd.prog.wantsStandIn u) = true := by kernel_rfl
        exact (show Tryd.prog.wantsStandIn t = false by simpa using List.all_eq_true.1 hall t hm)⟩)
    (by kernel_rfl)

end Go.Proofs.Qxb6600902aDoor
