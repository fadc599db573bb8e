/-
  THE ROW AND THE TIED CARD OF FnPathStringCutAtAnyStep. The frame: the kit's shell for a law over slices, with the listed tables as the kit's MapyProofs has them.
-/
import Derived.Test.Qxb6003658aDoorMain
import Derived.Test.Qxb6003658aDoorRows
import Derived.Test.Qxb6003658aDoorTie
import Derived.Test.Qxb6003658aDoorCards
import Derived.ProofKit
import Derived.LaidMore
import Derived.OpenShut
import Derived.ChangeOld
import Derived.SliceStrings
import Derived.Stop.LaidErr
import Derived.Stop.Joined
import Derived.SevenTiedAt
namespace Go.Proofs.Qxb6003658aDoor
open Go.ChangeShapes Go.WideShapes Go.ChangeAt Go.RowKit
set_option linter.unusedVariables false

theorem own : ownKnob Tryd.prog.godebug = none := by kernel_rfl
theorem laidOut : laidOutB Tryd.prog = true := by kernel_rfl
theorem gPow : Tryd.prog.globalNamed powName = some 1 := by kernel_rfl

theorem tab_of {W : World} (h : laidMetH Tryd.prog Rows.fnPathStringCutAtAnyStepRow.laid W) : Lib.TabIs Tryd.prog W powName .u64 Lib.pow10Tab := by
  rw [MakeChecks.laidMetH_plain _ _ _ (by kernel_rfl)] at h
  exact Lib.tabIs_of_head (rest := []) gPow (by kernel_rfl) Tryd.underlying59 Tryd.underlying52 (by kernel_rfl) (by kernel_rfl) h.tail.tail

theorem door_met (os : Os) (args : Array Value) : laidMetH Tryd.prog Rows.fnPathStringCutAtAnyStepRow.laid ((World.doorLaid Tryd.prog 400 os).forCall (fun _ _ => 0) ⟨#[], args, []⟩).memory :=
  laidMetH_of_parts3 (fuel := 8) (laidMet_of_run' 8 (by kernel_rfl) (by kernel_rfl)) (by kernel_rfl) (by kernel_rfl)

/-- A row that came in, whatever its cells hold. -/
theorem row_in {W : World} {x : Addr} {len n : Nat} {f : Nat → Value} (hl : len ≤ n) (hcell : ∀ i, i < n → W.cell? (x.add i) = some (f i)) : Row W (some x) len f := by
  rcases Nat.eq_zero_or_pos len with h | h
  · exact .inl h
  · obtain ⟨b, off, spot⟩ := x
    have hc := hcell 0 (by omega)
    have hspot : spot = none := by simpa [Addr.add] using World.cell?_spot hc
    subst hspot
    refine .inr ⟨b, off, rfl, ?_, fun j hj => ?_⟩
    · have := block_lt_of_cell hc
      simpa [Addr.add] using this
    · have hadd : (⟨b, off, none⟩ : Addr).add j = ⟨b, off + j, none⟩ := by unfold Addr.add; split <;> simp_all
      rw [← hadd]
      exact hcell j (by omega)

theorem i64_bounds {z : Int} (h : (Lit.int .i64 z).wf = true) : -9223372036854775808 ≤ z ∧ z ≤ 9223372036854775807 := by
  simp only [Lit.wf, IntKind.min, IntKind.max, IntKind.signed, IntKind.bits, Bool.and_eq_true, decide_eq_true_eq, if_true] at h
  omega

/-- What the walk is told of the slice of strings. -/
def InS (W : World) (a : Option Addr) (len cap : Nat) (ns : Nat → ByteArray) : Prop :=
  len ≤ maxLen ∧ (a = none → len = 0 ∧ cap = 0) ∧ Row W a len (fun j => .string (ns j)) ∧ ∀ j, j < len → (ns j).size ≤ maxLen
/-- What the walk is told of the slice of ints. -/
def InI (W : World) (a : Option Addr) (len cap : Nat) (is : Nat → Int) : Prop :=
  len ≤ maxLen ∧ (a = none → len = 0 ∧ cap = 0) ∧ Row W a len (fun j => .int .i64 (is j)) ∧ I64 is len

set_option maxRecDepth 100000 in
theorem lifted (os : Os) (started : os.Started) (H : Type) (enc : TypeId × Value → H) :
    ReturnsInHanded {} Tryd.checked os 3 .any (fun w args => (Rows.fnPathStringCutAtAnyStepSpec.pre enc Tryd.prog Tryd.f3 [] false w args ∧ laidMetH Tryd.prog Rows.fnPathStringCutAtAnyStepRow.laid w) ∧ sizedMet enc Tryd.prog Tryd.f3 (OpenSpec.ofChange Rows.fnPathStringCutAtAnyStepSpec) false w args)
      (Rows.fnPathStringCutAtAnyStepSpec.post enc Tryd.prog Tryd.f3 false true false false) := by
  refine returnsInHanded_of_change_and (C := Tryd.checked) (X := fun w _ => laidMetH Tryd.prog Rows.fnPathStringCutAtAnyStepRow.laid w) (fun _ _ _ hh h => h.of_heap hh) own started (by kernel_rfl) Tryd.func3
    (ChangeSpec.witness_shaped (enc := enc) (C := Tryd.checked) (os := os) (X := fun w _ => laidMetH Tryd.prog Rows.fnPathStringCutAtAnyStepRow.laid w) false (World.doorLaid Tryd.prog 400 os) #[.slice none 0 0, .slice none 0 0, .int .i64 0, .int .i64 0] 8 rfl (World.shaped_of_RefB (by kernel_rfl) (by kernel_rfl)) (by kernel_rfl) (by kernel_rfl) (by kernel_rfl) (door_met os _)) ?_
  intro W base args ds gs before hval0 hW _ _ hL _
  have hval : ∀ (j : Nat) t v, Tryd.f3.params[j]? = some t → args[j]? = some v → Value.okWide Tryd.prog W .any base t v := hval0
  have hW' := hW
  obtain ⟨p, q, hA0, hV, rfl, hfz, hnd⟩ := hW
  have hA : DataW.TrodAll enc Tryd.prog W 0 (fun _ => true) true Tryd.f3.params.toList args.toList ds p := hA0
  rw [Tryd.params3] at hA hval
  obtain ⟨v0, vs0, d0, ds0, p0, q0, hargs, rfl, rfl, h0, r0⟩ := trodAll_cons hA
  obtain ⟨v1, vs1, d1, ds1, p1, q1, rfl, rfl, rfl, h1, r1⟩ := trodAll_cons r0
  obtain ⟨v2, vs2, d2, ds2, p2, q2, rfl, rfl, rfl, h2, r2⟩ := trodAll_cons r1
  obtain ⟨v3, vs3, d3, ds3, p3, q3, rfl, rfl, rfl, h3, r3⟩ := trodAll_cons r2
  obtain ⟨rfl, rfl, rfl⟩ := trodAll_nil r3
  obtain rfl : args = #[v0, v1, v2, v3] := by cases args; simp_all
  obtain ⟨rfl, rfl⟩ := trodVars_none hV
  obtain ⟨a0, len0, cap0, rfl⟩ := okWide_slice Tryd.underlying22 (hval 0 22 v0 rfl rfl)
  obtain ⟨a1, len1, cap1, rfl⟩ := okWide_slice Tryd.underlying23 (hval 1 23 v1 rfl rfl)
  have k0 := h0
  have k1 := h1
  have lt0 : ∀ x ∈ p0, x.block < W.heap.size := by obtain ⟨m, hm⟩ := k0; exact DataW.trod_lt m _ _ _ hm
  have lt1 : ∀ x ∈ p1, x.block < W.heap.size := by obtain ⟨m, hm⟩ := k1; exact DataW.trod_lt m _ _ _ hm
  obtain ⟨ns, w0⟩ : ∃ ns, InS W a0 len0 cap0 ns := by
    obtain ⟨fuel, hf⟩ := h0
    rcases open_strings Tryd.underlying22 Tryd.underlying9 (by kernel_rfl) hf with ⟨hcs, _⟩ | ⟨x, l, c, ss, hcs, _, hl, hm, hz, _, hcell, hws⟩
    · simp [Value.cells] at hcs
      obtain ⟨rfl, rfl, rfl⟩ := hcs
      exact ⟨fun _ => ByteArray.empty, by simp, fun _ => ⟨rfl, rfl⟩, .inl rfl, fun j hj => absurd hj (by omega)⟩
    · simp [Value.cells] at hcs
      obtain ⟨rfl, rfl, rfl⟩ := hcs
      simp only [if_true] at hz
      refine ⟨fun j => ss.getD j ByteArray.empty, by omega, (fun h => by cases h), row_in (by omega) hcell, fun j hj => ?_⟩
      have hj' : j < ss.length := by omega
      show (ss.getD j ByteArray.empty).size ≤ maxLen
      rw [List.getD_eq_getElem?_getD, List.getElem?_eq_getElem hj']
      exact hws _ (List.getElem_mem hj')
  obtain ⟨is, w1⟩ : ∃ is, InI W a1 len1 cap1 is := by
    obtain ⟨fuel, hf⟩ := h1
    rcases open_ints Tryd.underlying23 Tryd.underlying3 (by kernel_rfl) hf with ⟨hcs, _⟩ | ⟨x, l, c, zs, hcs, _, hl, hm, hz, _, hcell, hwz⟩
    · simp [Value.cells] at hcs
      obtain ⟨rfl, rfl, rfl⟩ := hcs
      exact ⟨fun _ => 0, by simp, fun _ => ⟨rfl, rfl⟩, .inl rfl, fun j hj => absurd hj (by omega)⟩
    · simp [Value.cells] at hcs
      obtain ⟨rfl, rfl, rfl⟩ := hcs
      simp only [if_true] at hz
      refine ⟨fun j => zs.getD j 0, by omega, (fun h => by cases h), row_in (by omega) hcell, fun j hj => ?_⟩
      have hj' : j < zs.length := by omega
      show -9223372036854775808 ≤ zs.getD j 0 ∧ zs.getD j 0 ≤ 9223372036854775807
      rw [List.getD_eq_getElem?_getD, List.getElem?_eq_getElem hj']
      exact i64_bounds (hwz _ (List.getElem_mem hj'))
  obtain ⟨ln, rfl, rfl, rfl, w2⟩ := open_int Tryd.underlying3 (hval 2 3 v2 rfl rfl) h2
  obtain ⟨k, rfl, rfl, rfl, w3⟩ := open_int Tryd.underlying3 (hval 3 3 v3 rfl rfl) h3
  have htab := tab_of hL
  clear hA0 hval0
  refine (main_any a0 a1 len0 cap0 len1 cap1 ln k ns is W w0.1 w1.1 w0.2.2.2 w0.2.2.1 w1.2.2.1 w0.2.1 w1.2.1 w1.2.2.2 htab).mono fun e W' ⟨he, bel⟩ => ?_
  subst he
  exact ⟨_, rfl, _, _, _, [], _, [], hW', trodAll_mk1 (shut_bool Tryd.underlying4 _), (trodAll_cons_mk (Below.trod laidOut (by kernel_rfl) (of_decide_eq_true (by kernel_rfl)) k0 bel lt0) (trodAll_cons_mk (Below.trod laidOut (by kernel_rfl) (of_decide_eq_true (by kernel_rfl)) k1 bel lt1) (trodAll_cons_mk (shut_int Tryd.underlying3 w2) (trodAll_cons_mk (shut_int Tryd.underlying3 w3) trodAll_mk0)))), rfl, bel.frame _, fun h => by cases h⟩

theorem row_holds : Rows.FnPathStringCutAtAnyStepSaid :=
  OpenClaim.holds_of_wide 3 Tryd.f3 rfl rfl rfl rfl rfl rfl rfl ⟨rfl, rfl, rfl, rfl, rfl⟩ rfl rfl rfl rfl rfl (by kernel_rfl) Tryd.func3 (by kernel_rfl)
    (of_decide_eq_true (by kernel_rfl)) (by unfold Func.isWrapper; first | (rw [if_pos (by decide +kernel)]; kernel_rfl) | (rw [if_neg (by decide +kernel)]; exact ⟨rfl, rfl⟩))
    (fun os started H enc _ => lifted os started H enc)

/-- THE STATEMENT. -/
theorem card_proved : Rows.FnPathStringCutAtAnyStepCardSaid :=
  Claim7.holds_tied_plain_at .later [] [.data, .data, .data] true (true, "8c96ee6cbe63c24faa673e48abdc80da0f965caa6f35f804d905811476648471") false
    row_holds (fun _ h => by cases h) (by kernel_rfl) (fun _ h => by cases h) fnPathStringCutAtAnyStep_row_tie rfl ⟨rfl, rfl⟩ (by kernel_rfl) rfl
    (fun f fn hf hfn => by
      obtain rfl : f = 3 := Option.some.inj ((show Tryd.prog.funcNamed Rows.fnPathStringCutAtAnyStepRow.func = some 3 by kernel_rfl).symm.trans hf) |>.symm
      obtain rfl : fn = Tryd.f3 := (Option.some.inj (Tryd.func3.symm.trans hfn)).symm
      exact ⟨by kernel_rfl, fun j t ht => by
        rw [Tryd.params3] at ht
        have hm : t ∈ [22, 23, 3, 3] := by simpa using Array.mem_of_getElem? ht
        have hall : ([22, 23, 3, 3].all fun u => !Tryd.prog.wantsStandIn u) = true := by kernel_rfl
        exact (show Tryd.prog.wantsStandIn t = false by simpa using List.all_eq_true.1 hall t hm)⟩)
    (by kernel_rfl)
#print axioms card_proved
end Go.Proofs.Qxb6003658aDoor
