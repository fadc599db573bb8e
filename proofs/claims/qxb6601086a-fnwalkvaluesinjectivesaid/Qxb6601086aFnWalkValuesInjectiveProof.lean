/-
  THE PROOF OF 'Rows.FnWalkValuesInjectiveSaid': the kit's shell (proof-skeleton.mjs) for this function, its hole filled.
-/
import Derived.Test.Qxb6601086aRows
import Derived.Test.Qxb6601086aWalkA
import Derived.WalkKit
import Derived.ProofKit
import Derived.OpenShut
import Derived.ShutString
namespace Go.Proofs.Qxb6601086a.fnWalkValuesInjective
open Go.ChangeShapes Go.WideShapes Go.ChangeAt Go.RowKit
open Go.ChangeMaps (open_string shut_string)
set_option linter.unusedVariables false      -- a walk need not use every 'w<i>' (that an integer argument fits its kind)

theorem own : ownKnob Try.prog.godebug = none := by kernel_rfl

/-! ### THE WALK -/
theorem zz_any (a b : ByteArray) (ha : a.size ≤ maxLen) (hb : b.size ≤ maxLen) (w : World) : Calls Try.prog 12 #[.string a, .string b] w fun e w' => RetB e ∧ w' = w := by
  unfold maxLen at *
  go_enter Try.func12, Try.ntmps12
  go_wp2
  all_goals
    go_ret
    exact ⟨⟨_, rfl⟩, rfl⟩

/-- The day can be read off the statement. -/
theorem wv_inj {k : Cs} (hk : IsK k) {a b : ByteArray} (h : wv k a = wv k b) : a = b := by
  have hs := congrArg ByteArray.size h
  rw [wv_size hk, wv_size hk] at hs
  have hd := congrArg (fun s => s.data.toList) h
  simp only [wv, ByteArray.data_append, Array.toList_append, List.append_assoc] at hd
  have hl : a.data.toList.length = b.data.toList.length := show a.size = b.size by omega
  exact ByteArray.ext (Array.ext' (List.append_inj (List.append_cancel_left hd) hl).1)

set_option maxRecDepth 100000 in
theorem walk (a0 : ByteArray) (a1 : ByteArray) (w0 : a0.size ≤ maxLen) (w1 : a1.size ≤ maxLen) (w : World) :
    Calls Try.prog 5 #[.string a0, .string a1] w fun e w' => e = .returned (.bool true) ∧ Grown w w' := by
  obtain ⟨k, hk⟩ : ∃ k, IsK k := ⟨_, rfl⟩
  go_enter Try.func5, Try.ntmps5
  go_wp2_with fail
  refine (zz_any a0 a1 w0 w1 w).mono ?_
  rintro e w' ⟨⟨b, rfl⟩, rfl⟩
  unfold maxLen at w0 w1
  cases b
  · go_wp2
    go_ret
    exact ⟨rfl, Grown.refl _⟩
  by_cases hA : a0.size ≤ 65536 ∧ a1.size ≤ 65536
  case neg =>
    rcases (by omega : 65536 < a0.size ∨ (a0.size ≤ 65536 ∧ 65536 < a1.size)) with hA | hA
    · go_wp2
      go_ret
      exact ⟨rfl, Grown.refl _⟩
    · obtain ⟨hA1, hA2⟩ := hA
      go_wp2
      go_ret
      exact ⟨rfl, Grown.refl _⟩
  obtain ⟨hA1, hA2⟩ := hA
  obtain ⟨sa, hsa⟩ : ∃ sa, sa = wv k a0 := ⟨_, rfl⟩
  obtain ⟨sb, hsb⟩ : ∃ sb, sb = wv k a1 := ⟨_, rfl⟩
  have H0 := zzWalk_any k hk a0 hA1 w'
  have H1 := zzWalk_any k hk a1 hA2 w'
  rw [← hsa] at H0
  rw [← hsb] at H1
  have heq : ((sa.toList == sb.toList) == (a0.toList == a1.toList)) = true := by
    by_cases e : a0 = a1
    · subst e; rw [hsa, hsb]; simp
    · have h2 : ¬ sa = sb := fun h => e (wv_inj hk (by rw [← hsa, ← hsb, h]))
      have tl : ∀ x y : ByteArray, ¬ x = y → (x.toList == y.toList) = false := fun x y hxy => by
        rw [beq_eq_false_iff_ne]
        intro h
        rw [ByteArray.toList_eq, ByteArray.toList_eq] at h
        exact hxy (ByteArray.ext (Array.ext' h))
      rw [tl _ _ e, tl _ _ h2]; rfl
  clear hsa hsb hk
  go_wp2_with fail
  refine H0.mono ?_
  rintro e w2 ⟨rfl, rfl⟩
  go_wp2_with fail
  refine H1.mono ?_
  rintro e w3 ⟨rfl, rfl⟩
  go_wp2
  go_ret
  exact ⟨rfl, Grown.refl _⟩

/-! ### THE ROW's STEP: WRITTEN OUT: LEAVE IT -/
set_option maxRecDepth 100000 in
theorem lifted (os : Os) (started : os.Started) (H : Type) (enc : TypeId × Value → H) :
    ReturnsInHanded {} Try.checked os 5 .any (Rows.fnWalkValuesInjectiveSpec.pre6 enc Try.prog Try.f5 Rows.fnWalkValuesInjectiveRow.domain false) (Rows.fnWalkValuesInjectiveSpec.post enc Try.prog Try.f5 false true false false) := by
  refine returnsInHanded_of_change (C := Try.checked) own started (by kernel_rfl) Try.func5
    (ChangeSpec.witness6 (enc := enc) (C := Try.checked) false ⟨#[], #[.string ByteArray.empty, .string ByteArray.empty], []⟩ 8 (by kernel_rfl) (by kernel_rfl) (by kernel_rfl) (by kernel_rfl)) ?_
  intro W base args ds gs before hval0 hW hcnd _
  have hval : ∀ (j : Nat) t v, Try.f5.params[j]? = some t → args[j]? = some v → Value.okWide Try.prog W .any base t v := hval0
  have hW' := hW
  obtain ⟨p, q, hA0, hV, rfl, hfz, hnd⟩ := hW
  have hA : DataW.TrodAll enc Try.prog W 0 (fun _ => true) true Try.f5.params.toList args.toList ds p := hA0
  rw [Try.params5] at hA hval
  obtain ⟨v0, vs0, d0, ds0, p0, q0, hargs, rfl, rfl, h0, r0⟩ := trodAll_cons hA
  obtain ⟨v1, vs1, d1, ds1, p1, q1, rfl, rfl, rfl, h1, r1⟩ := trodAll_cons r0
  obtain ⟨rfl, rfl, rfl⟩ := trodAll_nil r1
  obtain rfl : args = #[v0, v1] := by cases args; simp_all
  obtain ⟨rfl, rfl⟩ := trodVars_none hV
  obtain ⟨a0, rfl, rfl, rfl, w0⟩ := open_string Try.underlying9 (hval 0 9 v0 rfl rfl) h0
  obtain ⟨a1, rfl, rfl, rfl, w1⟩ := open_string Try.underlying9 (hval 1 9 v1 rfl rfl) h1
  clear hA0 hval0
  simp only [List.append_nil] at hW'
  refine (walk a0 a1 w0 w1 W).mono fun e W' ⟨he, hg⟩ => ?_
  subst he
  exact ⟨_, rfl, post_of_same (pa := []) (pv := []) hW' (fun _ _ _ => (trodAll_cons_mk (shut_bool Try.underlying4 _) trodAll_mk0)) (fun sp _ => (trodAll_cons_mk (shut_string Try.underlying9 w0) (trodAll_cons_mk (shut_string Try.underlying9 w1) trodAll_mk0))) (fun _ _ => rfl) rfl
    (hg.frame _) hg.2.1 (ok_one (by kernel_rfl) rfl (okWide_bool_mk Try.underlying4 _))⟩

theorem over : Rows.fnWalkValuesInjectiveRow.holds Try.pinned (OpenSpec.ofChange Rows.fnWalkValuesInjectiveSpec) :=
  OpenClaim.holds_of_wide 5 Try.f5 rfl rfl rfl rfl rfl rfl rfl ⟨rfl, rfl, rfl, rfl, rfl⟩ rfl rfl rfl rfl rfl (by kernel_rfl) Try.func5 (by kernel_rfl)
    (of_decide_eq_true (by kernel_rfl)) (by unfold Func.isWrapper; first | (rw [if_pos (by decide +kernel)]; kernel_rfl) | (rw [if_neg (by decide +kernel)]; exact ⟨rfl, rfl⟩))
    (fun os started H enc _ => lifted os started H enc)

/-- ████ THE STATEMENT ████ -/
theorem proved : Rows.FnWalkValuesInjectiveSaid :=
  over
#print axioms proved
end Go.Proofs.Qxb6601086a.fnWalkValuesInjective
