/-
  THE PROOF OF 'Rows.FnIsPlainGrammarAndSignSaid': the kit's shell (proof-skeleton.mjs) for this function, its hole filled.
-/
import Derived.Test.Qxb6605247aRows
import Derived.Test.Qxb6605247aWalkB
import Derived.WalkKit
import Derived.ProofKit
import Derived.OpenShut
import Derived.ShutString
namespace Go.Proofs.Qxb6605247a.fnIsPlainGrammarAndSign
open Go.ChangeShapes Go.WideShapes Go.ChangeAt Go.RowKit
open Go.ChangeMaps (open_string shut_string)
set_option linter.unusedVariables false      -- a walk need not use every 'w<i>' (that an integer argument fits its kind)

theorem own : ownKnob Try.prog.godebug = none := by kernel_rfl

/-! ### THE WALK -/
theorem zz_any (a : ByteArray) (ha : a.size ≤ maxLen) (w : World) : Calls Try.prog 8 #[.string a] w fun e w' => RetB e ∧ w' = w := by
  unfold maxLen at *
  go_enter Try.func8, Try.ntmps8
  go_wp2
  all_goals
    go_ret
    exact ⟨⟨_, rfl⟩, rfl⟩

/-- Does the text open with a minus? -/
def lead (l : List UInt8) : Bool := match l with | [] => false | c :: _ => c.toNat == 45

/-- A minus put ahead. -/
theorem neg_eq (l : List UInt8) : run 1 (strip (45 :: l)) = (run 1 (strip l) && !lead l) := by
  rw [strip_yes 45 l rfl]
  cases l with
  | nil => rfl
  | cons c r =>
    by_cases h : c.toNat = 45
    · have hd : dig c = false := by simp [dig, h]
      rw [run1, hd]
      simp [lead, h]
    · rw [strip_no c r h]
      simp [lead, h]

set_option maxHeartbeats 1000000 in
set_option maxRecDepth 100000 in
theorem walk (a0 : ByteArray) (w0 : a0.size ≤ maxLen) (w : World) :
    Calls Try.prog 4 #[.string a0] w fun e w' => e = .returned (.bool true) ∧ Grown w w' := by
  go_enter Try.func4, Try.ntmps4
  go_wp2_with fail
  refine (zz_any a0 w0 w).mono ?_
  rintro e w' ⟨⟨b, rfl⟩, rfl⟩
  unfold maxLen at w0
  cases b
  · go_wp2
    go_ret
    exact ⟨rfl, Grown.refl _⟩
  by_cases hA : a0.size ≤ 1048576
  case neg =>
    go_wp2
    go_ret
    exact ⟨rfl, Grown.refl _⟩
  have hns : ((⟨#[45]⟩ : ByteArray) ++ a0).size = 1 + a0.size := by rw [ByteArray.size_append]; rfl
  have H0 := zzIsPlain_any a0 (by omega) w'
  have H1 := zzIsPlain_any (⟨#[45]⟩ ++ a0) (by omega) w'
  have H2 := parts_any a0 (by omega) w'
  have hneg : run 1 (strip ((⟨#[45]⟩ : ByteArray) ++ a0).data.toList) = (run 1 (strip a0.data.toList) && !lead a0.data.toList) := by
    rw [← neg_eq, ByteArray.data_append]
    simp
  rw [hneg] at H1
  obtain ⟨r, hr⟩ : ∃ r, r = run 1 (strip a0.data.toList) := ⟨_, rfl⟩
  rw [← hr] at H0 H1 H2
  clear hr hneg
  by_cases h0 : a0.size = 0
  · have hl : lead a0.data.toList = false := by
      have : a0.data.toList = [] := List.length_eq_zero_iff.1 h0
      rw [this]; rfl
    rw [hl] at H1
    have hz : ¬ ((0 : Int) < (a0.size : Int)) := by omega
    have hd : decide ((0 : Int) < (a0.size : Int)) = false := by simpa using hz
    clear hl h0
    go_wp2_with fail
    refine H0.mono ?_
    rintro e w2 ⟨rfl, rfl⟩
    go_wp2_with fail
    refine H1.mono ?_
    rintro e w3 ⟨rfl, rfl⟩
    go_wp2_with fail
    refine H2.mono ?_
    rintro e w4 ⟨rfl, rfl⟩
    cases r
    all_goals
      go_wp2
      go_ret
      exact ⟨rfl, Grown.refl _⟩
  · have hpos : 0 < a0.size := by omega
    have hip : (0 : Int) < (a0.size : Int) := by omega
    have hl : lead a0.data.toList = ((a0[0].toNat : Int) == 45) := by
      have := drop_at a0 0 hpos
      rw [List.drop_zero] at this
      rw [this]
      show (a0[0].toNat == 45) = _
      rw [Bool.eq_iff_iff]; simp; omega
    rw [hl] at H1
    obtain ⟨q, hq⟩ : ∃ q : Bool, ((a0[0].toNat : Int) == 45) = q := ⟨_, rfl⟩
    rw [hq] at H1
    clear hl h0
    go_wp2_with fail
    refine H0.mono ?_
    rintro e w2 ⟨rfl, rfl⟩
    go_wp2_with fail
    refine H1.mono ?_
    rintro e w3 ⟨rfl, rfl⟩
    go_wp2_with fail
    refine H2.mono ?_
    rintro e w4 ⟨rfl, rfl⟩
    cases r <;> cases q
    all_goals
      go_wp2
      go_ret
      exact ⟨rfl, Grown.refl _⟩

/-! ### THE ROW's STEP: WRITTEN OUT: LEAVE IT -/
set_option maxRecDepth 100000 in
theorem lifted (os : Os) (started : os.Started) (H : Type) (enc : TypeId × Value → H) :
    ReturnsInHanded {} Try.checked os 4 .any (Rows.fnIsPlainGrammarAndSignSpec.pre6 enc Try.prog Try.f4 Rows.fnIsPlainGrammarAndSignRow.domain false) (Rows.fnIsPlainGrammarAndSignSpec.post enc Try.prog Try.f4 false true false false) := by
  refine returnsInHanded_of_change (C := Try.checked) own started (by kernel_rfl) Try.func4
    (ChangeSpec.witness6 (enc := enc) (C := Try.checked) false ⟨#[], #[.string ByteArray.empty], []⟩ 8 (by kernel_rfl) (by kernel_rfl) (by kernel_rfl) (by kernel_rfl)) ?_
  intro W base args ds gs before hval0 hW hcnd _
  have hval : ∀ (j : Nat) t v, Try.f4.params[j]? = some t → args[j]? = some v → Value.okWide Try.prog W .any base t v := hval0
  have hW' := hW
  obtain ⟨p, q, hA0, hV, rfl, hfz, hnd⟩ := hW
  have hA : DataW.TrodAll enc Try.prog W 0 (fun _ => true) true Try.f4.params.toList args.toList ds p := hA0
  rw [Try.params4] at hA hval
  obtain ⟨v0, vs0, d0, ds0, p0, q0, hargs, rfl, rfl, h0, r0⟩ := trodAll_cons hA
  obtain ⟨rfl, rfl, rfl⟩ := trodAll_nil r0
  obtain rfl : args = #[v0] := by cases args; simp_all
  obtain ⟨rfl, rfl⟩ := trodVars_none hV
  obtain ⟨a0, rfl, rfl, rfl, w0⟩ := open_string Try.underlying9 (hval 0 9 v0 rfl rfl) h0
  clear hA0 hval0
  simp only [List.append_nil] at hW'
  refine (walk a0 w0 W).mono fun e W' ⟨he, hg⟩ => ?_
  subst he
  exact ⟨_, rfl, post_of_same (pa := []) (pv := []) hW' (fun _ _ _ => (trodAll_cons_mk (shut_bool Try.underlying4 _) trodAll_mk0)) (fun sp _ => (trodAll_cons_mk (shut_string Try.underlying9 w0) trodAll_mk0)) (fun _ _ => rfl) rfl
    (hg.frame _) hg.2.1 (ok_one (by kernel_rfl) rfl (okWide_bool_mk Try.underlying4 _))⟩

theorem over : Rows.fnIsPlainGrammarAndSignRow.holds Try.pinned (OpenSpec.ofChange Rows.fnIsPlainGrammarAndSignSpec) :=
  OpenClaim.holds_of_wide 4 Try.f4 rfl rfl rfl rfl rfl rfl rfl ⟨rfl, rfl, rfl, rfl, rfl⟩ rfl rfl rfl rfl rfl (by kernel_rfl) Try.func4 (by kernel_rfl)
    (of_decide_eq_true (by kernel_rfl)) (by unfold Func.isWrapper; first | (rw [if_pos (by decide +kernel)]; kernel_rfl) | (rw [if_neg (by decide +kernel)]; exact ⟨rfl, rfl⟩))
    (fun os started H enc _ => lifted os started H enc)

/-- ████ THE STATEMENT ████ -/
theorem proved : Rows.FnIsPlainGrammarAndSignSaid :=
  over
#print axioms proved
end Go.Proofs.Qxb6605247a.fnIsPlainGrammarAndSign
