/-
  THE ROW AND THE TIED CARD OF FnParseStatReadsAWellFormedLine. The frame: the kit's shell for a law over slices, with the listed variables as the kit's MapyProofs has them.
-/
import Derived.Test.Qxb6600948aDoorMain
import Derived.Test.Qxb6600948aDoorRows
import Derived.Test.Qxb6600948aDoorTie
import Derived.Test.Qxb6600948aDoorCards
import Derived.ProofKit
import Derived.LaidMore
import Derived.OpenShut
import Derived.ChangeOld
import Derived.Stop.LaidErr
import Derived.Stop.Joined
import Derived.SevenTiedAt
namespace Go.Proofs.Qxb6600948aDoor
open Go.ChangeShapes Go.WideShapes Go.ChangeAt Go.RowKit
set_option linter.unusedVariables false

theorem own : ownKnob Tryd.prog.godebug = none := by kernel_rfl
theorem laidOut : laidOutB Tryd.prog = true := by kernel_rfl
theorem gAscii : Tryd.prog.globalNamed "strings.asciiSpace" = some 0 := by kernel_rfl
theorem eAscii : (Rows.laid_strings_asciiSpace : DataW Unit) = Lib.tabData .u8 Lib.asciiSpaceTab := by kernel_rfl
theorem eWhite : (Rows.laid_unicode_White_Space : DataW Unit) = Lib.whiteData := by kernel_rfl

theorem tabs_of {W : World} (h : laidMetH Tryd.prog Rows.fnParseStatReadsAWellFormedLineRow.laid W) : Tabs W := by
  rw [MakeChecks.laidMetH_plain _ _ _ (by kernel_rfl)] at h
  refine ⟨?_, ?_⟩
  · have h7 : laidMet Tryd.prog [("strings.asciiSpace", Rows.laid_strings_asciiSpace)] W := h.tail.tail.tail.tail.tail.tail
    rw [eAscii] at h7
    exact Lib.tabIs_of_head (rest := []) gAscii (by kernel_rfl) Tryd.underlying49 Tryd.underlying5 (by kernel_rfl) (by kernel_rfl) h7
  · have h6 : laidMet Tryd.prog [("unicode.White_Space", Rows.laid_unicode_White_Space), ("strings.asciiSpace", Rows.laid_strings_asciiSpace)] W := h.tail.tail.tail.tail.tail
    rw [eWhite] at h6
    exact whiteTab_of_reads Tryd.lays199 ⟨by kernel_rfl, by kernel_rfl, by kernel_rfl, by kernel_rfl, by kernel_rfl, by kernel_rfl, by kernel_rfl, by kernel_rfl⟩ (Lib.laidMet.reads h6 (.head _))

theorem door_met (os : Os) (args : Array Value) : laidMetH Tryd.prog Rows.fnParseStatReadsAWellFormedLineRow.laid ((World.doorLaid Tryd.prog 400 os).forCall (fun _ _ => 0) ⟨#[], args, []⟩).memory :=
  laidMetH_of_parts3 (fuel := 8) (laidMet_of_run' 8 (by kernel_rfl) (by kernel_rfl)) (by kernel_rfl) (by kernel_rfl)

/-- A row that came in, whatever its cells hold. -/
theorem row_in {W : World} {x : Addr} {len n : Nat} {f : Nat → Value} (hl : len ≤ n) (hcell : ∀ i, i < n → W.cell? (x.add i) = some (f i)) : Row W (some x) len f := by
  rcases Nat.eq_zero_or_pos len with h | h
  · exact .inl h
  · obtain ⟨b, off, spot⟩ := x
    have hc := hcell 0 (by omega)
    have hspot : spot = none := by simpa [Addr.add] using World.cell?_spot hc
    subst hspot
    refine .inr ⟨b, off, rfl, ?_, fun j hj => ?_⟩
    · have := block_lt_of_cell hc
      simpa [Addr.add] using this
    · have hadd : (⟨b, off, none⟩ : Addr).add j = ⟨b, off + j, none⟩ := by unfold Addr.add; split <;> simp_all
      rw [← hadd]
      exact hcell j (by omega)

theorem i64_bounds {z : Int} (h : (Lit.int .i64 z).wf = true) : -9223372036854775808 ≤ z ∧ z ≤ 9223372036854775807 := by
  simp only [Lit.wf, IntKind.min, IntKind.max, IntKind.signed, IntKind.bits, Bool.and_eq_true, decide_eq_true_eq, if_true] at h
  omega

theorem u8_bounds {z : Int} (h : (Lit.int .u8 z).wf = true) : 0 ≤ z ∧ z ≤ 255 := by
  simp [Lit.wf, IntKind.min, IntKind.max, IntKind.signed, IntKind.bits] at h
  omega

theorem u64_bounds {z : Int} (h : (Lit.int .u64 z).wf = true) : 0 ≤ z ∧ z < 18446744073709551616 := by
  simp [Lit.wf, IntKind.min, IntKind.max, IntKind.signed, IntKind.bits] at h
  omega

theorem byte_of (z : Int) (h : 0 ≤ z ∧ z ≤ 255) : z = ((UInt8.ofNat z.toNat).toNat : Int) := by
  simp; omega

/-- What the walk is told of a slice of bytes. -/
def InB (W : World) (a : Option Addr) (len cap : Nat) (f : Nat → UInt8) : Prop :=
  len ≤ maxLen ∧ (a = none → len = 0 ∧ cap = 0) ∧ Row W a len (B8 f)

theorem inB_of {H : Type} {enc : TypeId × Value → H} {W : World} {a : Option Addr} {len cap : Nat} {d : DataW H} {p : List MemPlace} (h : DataW.Trod enc Tryd.prog W 0 (fun _ => true) true 22 (.slice a len cap) d p) : ∃ f, InB W a len cap f := by
  obtain ⟨fuel, hf⟩ := h
  rcases open_ints Tryd.underlying22 Tryd.underlying5 (by kernel_rfl) hf with ⟨hcs, _⟩ | ⟨x, l, c, zs, hcs, _, hl, hm, hz, _, hcell, hwz⟩
  · simp [Value.cells] at hcs
    obtain ⟨rfl, rfl, rfl⟩ := hcs
    exact ⟨fun _ => 0, by simp, fun _ => ⟨rfl, rfl⟩, .inl rfl⟩
  · simp [Value.cells] at hcs
    obtain ⟨rfl, rfl, rfl⟩ := hcs
    simp only [if_true] at hz
    refine ⟨fun j => UInt8.ofNat (zs.getD j 0).toNat, by omega, (fun h => by cases h), row_in (by omega) fun i hi => ?_⟩
    have hi' : i < zs.length := by omega
    have hb : 0 ≤ zs.getD i 0 ∧ zs.getD i 0 ≤ 255 := by
      rw [List.getD_eq_getElem?_getD, List.getElem?_eq_getElem hi']
      exact u8_bounds (hwz _ (List.getElem_mem hi'))
    rw [hcell i hi']
    unfold B8
    rw [← byte_of _ hb]

set_option maxRecDepth 100000 in
theorem lifted (os : Os) (started : os.Started) (H : Type) (enc : TypeId × Value → H) :
    ReturnsInHanded {} Tryd.checked os 3 .any (fun w args => (Rows.fnParseStatReadsAWellFormedLineSpec.pre enc Tryd.prog Tryd.f3 [] false w args ∧ laidMetH Tryd.prog Rows.fnParseStatReadsAWellFormedLineRow.laid w) ∧ sizedMet enc Tryd.prog Tryd.f3 (OpenSpec.ofChange Rows.fnParseStatReadsAWellFormedLineSpec) false w args)
      (Rows.fnParseStatReadsAWellFormedLineSpec.post enc Tryd.prog Tryd.f3 false true false false) := by
  refine returnsInHanded_of_change_and (C := Tryd.checked) (X := fun w _ => laidMetH Tryd.prog Rows.fnParseStatReadsAWellFormedLineRow.laid w) (fun _ _ _ hh h => h.of_heap hh) own started (by kernel_rfl) Tryd.func3
    (ChangeSpec.witness_shaped (enc := enc) (C := Tryd.checked) (os := os) (X := fun w _ => laidMetH Tryd.prog Rows.fnParseStatReadsAWellFormedLineRow.laid w) false (World.doorLaid Tryd.prog 400 os) #[.int .i64 0, .int .i64 0, .slice none 0 0, .int .u8 0, .int .i64 0, .int .i64 0, .int .u64 0, .slice none 0 0] 8 rfl (World.shaped_of_RefB (by kernel_rfl) (by kernel_rfl)) (by kernel_rfl) (by kernel_rfl) (by kernel_rfl) (door_met os _)) ?_
  intro W base args ds gs before hval0 hW _ _ hL _
  have hval : ∀ (j : Nat) t v, Tryd.f3.params[j]? = some t → args[j]? = some v → Value.okWide Tryd.prog W .any base t v := hval0
  have hW' := hW
  obtain ⟨p, q, hA0, hV, rfl, hfz, hnd⟩ := hW
  have hA : DataW.TrodAll enc Tryd.prog W 0 (fun _ => true) true Tryd.f3.params.toList args.toList ds p := hA0
  rw [Tryd.params3] at hA hval
  obtain ⟨v0, vs0, d0, ds0, p0, q0, hargs, rfl, rfl, h0, r0⟩ := trodAll_cons hA
  obtain ⟨v1, vs1, d1, ds1, p1, q1, rfl, rfl, rfl, h1, r1⟩ := trodAll_cons r0
  obtain ⟨v2, vs2, d2, ds2, p2, q2, rfl, rfl, rfl, h2, r2⟩ := trodAll_cons r1
  obtain ⟨v3, vs3, d3, ds3, p3, q3, rfl, rfl, rfl, h3, r3⟩ := trodAll_cons r2
  obtain ⟨v4, vs4, d4, ds4, p4, q4, rfl, rfl, rfl, h4, r4⟩ := trodAll_cons r3
  obtain ⟨v5, vs5, d5, ds5, p5, q5, rfl, rfl, rfl, h5, r5⟩ := trodAll_cons r4
  obtain ⟨v6, vs6, d6, ds6, p6, q6, rfl, rfl, rfl, h6, r6⟩ := trodAll_cons r5
  obtain ⟨v7, vs7, d7, ds7, p7, q7, rfl, rfl, rfl, h7, r7⟩ := trodAll_cons r6
  obtain ⟨rfl, rfl, rfl⟩ := trodAll_nil r7
  obtain rfl : args = #[v0, v1, v2, v3, v4, v5, v6, v7] := by cases args; simp_all
  obtain ⟨rfl, rfl⟩ := trodVars_none hV
  obtain ⟨a2, len2, cap2, rfl⟩ := okWide_slice Tryd.underlying22 (hval 2 22 v2 rfl rfl)
  obtain ⟨a7, len7, cap7, rfl⟩ := okWide_slice Tryd.underlying22 (hval 7 22 v7 rfl rfl)
  have k2 := h2
  have k7 := h7
  have lt2 : ∀ x ∈ p2, x.block < W.heap.size := by obtain ⟨m, hm⟩ := k2; exact DataW.trod_lt m _ _ _ hm
  have lt7 : ∀ x ∈ p7, x.block < W.heap.size := by obtain ⟨m, hm⟩ := k7; exact DataW.trod_lt m _ _ _ hm
  obtain ⟨f, wf⟩ := inB_of h2
  obtain ⟨g, wg⟩ := inB_of h7
  obtain ⟨x0, rfl, rfl, rfl, w0⟩ := open_int Tryd.underlying3 (hval 0 3 v0 rfl rfl) h0
  obtain ⟨x1, rfl, rfl, rfl, w1⟩ := open_int Tryd.underlying3 (hval 1 3 v1 rfl rfl) h1
  obtain ⟨x3, rfl, rfl, rfl, w3⟩ := open_int Tryd.underlying5 (hval 3 5 v3 rfl rfl) h3
  obtain ⟨x4, rfl, rfl, rfl, w4⟩ := open_int Tryd.underlying3 (hval 4 3 v4 rfl rfl) h4
  obtain ⟨x5, rfl, rfl, rfl, w5⟩ := open_int Tryd.underlying3 (hval 5 3 v5 rfl rfl) h5
  obtain ⟨x6, rfl, rfl, rfl, w6⟩ := open_int Tryd.underlying23 (hval 6 23 v6 rfl rfl) h6
  have htab := tabs_of hL
  have b1 := i64_bounds w1
  have b4 := i64_bounds w4
  have b5 := i64_bounds w5
  have b6 := u64_bounds w6
  have e3 := byte_of x3 (u8_bounds w3)
  have e6 : x6 = ((x6.toNat : Nat) : Int) := by omega
  have walk := main_any a2 a7 len2 cap2 len7 cap7 f g x0 x1 x4 x5 (UInt8.ofNat x3.toNat) x6.toNat W wf.1 wg.1 wf.2.2 wg.2.2 wf.2.1 wg.2.1 b1.1 b1.2 b4.1 b4.2 b5.1 b5.2 (by omega) htab
  rw [← e3, ← e6] at walk
  clear hA0 hval0
  refine walk.mono fun e W' ⟨he, bel⟩ => ?_
  subst he
  exact ⟨_, rfl, _, _, _, [], _, [], hW', trodAll_mk1 (shut_bool Tryd.underlying4 _), (trodAll_cons_mk (shut_int Tryd.underlying3 w0) (trodAll_cons_mk (shut_int Tryd.underlying3 w1) (trodAll_cons_mk (Below.trod laidOut (by kernel_rfl) (of_decide_eq_true (by kernel_rfl)) k2 bel lt2) (trodAll_cons_mk (shut_int Tryd.underlying5 w3) (trodAll_cons_mk (shut_int Tryd.underlying3 w4) (trodAll_cons_mk (shut_int Tryd.underlying3 w5) (trodAll_cons_mk (shut_int Tryd.underlying23 w6) (trodAll_cons_mk (Below.trod laidOut (by kernel_rfl) (of_decide_eq_true (by kernel_rfl)) k7 bel lt7) trodAll_mk0)))))))), rfl, bel.frame _, fun h => by cases h⟩

theorem row_holds : Rows.FnParseStatReadsAWellFormedLineSaid :=
  OpenClaim.holds_of_wide 3 Tryd.f3 rfl rfl rfl rfl rfl rfl rfl ⟨rfl, rfl, rfl, rfl, rfl⟩ rfl rfl rfl rfl rfl (by kernel_rfl) Tryd.func3 (by kernel_rfl)
    (of_decide_eq_true (by kernel_rfl)) (by unfold Func.isWrapper; first | (rw [if_pos (by decide +kernel)]; kernel_rfl) | (rw [if_neg (by decide +kernel)]; exact ⟨rfl, rfl⟩))
    (fun os started H enc _ => lifted os started H enc)

/-- THE STATEMENT. -/
theorem card_proved : Rows.FnParseStatReadsAWellFormedLineCardSaid :=
  Claim7.holds_tied_plain_at .later [] [.data, .data, .data, .sentinel, .sentinel, .listed, .data] true (true, "b616c5e1056c0d2083c4fa3257340d8a382d2bc98a232e50273f9187d3c8d38b") true
    row_holds (fun _ h => by cases h) (by kernel_rfl) (fun _ h => by cases h) fnParseStatReadsAWellFormedLine_row_tie rfl ⟨rfl, rfl⟩ (by kernel_rfl) rfl
    (fun f fn hf hfn => by
      obtain rfl : f = 3 := Option.some.inj ((show Tryd.prog.funcNamed Rows.fnParseStatReadsAWellFormedLineRow.func = some 3 by kernel_rfl).symm.trans hf) |>.symm
      obtain rfl : fn = Tryd.f3 := (Option.some.inj (Tryd.func3.symm.trans hfn)).symm
      exact ⟨by kernel_rfl, fun j t ht => by
        rw [Tryd.params3] at ht
        have hm : t ∈ [3, 3, 22, 5, 3, 3, 23, 22] := by simpa using Array.mem_of_getElem? ht
        have hall : ([3, 3, 22, 5, 3, 3, 23, 22].all fun u => !Tryd.prog.wantsStandIn u) = true := by kernel_rfl
        exact (show Tryd.prog.wantsStandIn t = false by simpa using List.all_eq_true.1 hall t hm)⟩)
    (by kernel_rfl)
#print axioms card_proved
end Go.Proofs.Qxb6600948aDoor
