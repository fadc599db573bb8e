/-
  THE PROOF OF 'Rows.FnWalkValuesDayReadsBackSaid': the kit's shell (proof-skeleton.mjs) for this function, its hole filled.
-/
import Derived.Test.Qxb6601086aRows
import Derived.Test.Qxb6601086aWalkB
import Derived.WalkKit
import Derived.ProofKit
import Derived.OpenShut
import Derived.ShutString
namespace Go.Proofs.Qxb6601086a.fnWalkValuesDayReadsBack
open Go.ChangeShapes Go.WideShapes Go.ChangeAt Go.RowKit
open Go.ChangeMaps (open_string shut_string)
set_option linter.unusedVariables false      -- a walk need not use every 'w<i>' (that an integer argument fits its kind)

theorem own : ownKnob Try.prog.godebug = none := by kernel_rfl

/-! ### THE WALK -/
theorem zz_any (a : ByteArray) (ha : a.size ≤ maxLen) (w : World) : Calls Try.prog 10 #[.string a] w fun e w' => RetB e ∧ w' = w := by
  unfold maxLen at *
  go_enter Try.func10, Try.ntmps10
  go_wp2
  all_goals
    go_ret
    exact ⟨⟨_, rfl⟩, rfl⟩

/-- The empty day's table places: none before byte 77, one there. -/
theorem first_none {k : Cs} (hk : IsK k) : ∀ i, i < 77 → isAt (wv k ⟨#[]⟩).data.toList i [70, 82, 79, 77, 32, 32, 109] = false := by
  unfold IsK at hk
  subst hk
  have h : ((List.range 77).all fun i => !isAt (wv ⟨part Try.f13 1 true, part Try.f13 2 false, part Try.f13 5 false, part Try.f13 8 false, part Try.f13 11 false⟩ ⟨#[]⟩).data.toList i [70, 82, 79, 77, 32, 32, 109]) = true := by kernel_rfl
  intro i hi
  simpa using List.all_eq_true.1 h i (List.mem_range.2 hi)

theorem first_at {k : Cs} (hk : IsK k) : isAt (wv k ⟨#[]⟩).data.toList 77 [70, 82, 79, 77, 32, 32, 109] = true := by
  unfold IsK at hk
  subst hk
  kernel_rfl

theorem extract_list (s : ByteArray) (a b : Nat) : (s.extract a b).data.toList = (s.data.toList.take b).drop a := by
  rw [ByteArray.data_extract, Array.toList_extract, List.extract_eq_drop_take']

theorem head_eq {k : Cs} (hk : IsK k) (a b : ByteArray) : (((wv k a).extract 0 82).toList == ((wv k b).extract 0 82).toList) = true := by
  obtain ⟨h0, _⟩ := sizes hk
  have h0' : k.c0.data.toList.length = 82 := h0
  have h : ∀ d, (wv k d).extract 0 82 = k.c0 := fun d => by
    apply ByteArray.ext
    apply Array.ext'
    rw [extract_list, List.drop_zero]
    simp only [wv, ByteArray.data_append, Array.toList_append, List.append_assoc]
    rw [List.take_append_of_le_length (by omega), List.take_of_length_le (by omega)]
  rw [h, h]
  simp

theorem day_eq {k : Cs} (hk : IsK k) (a : ByteArray) : (((wv k a).extract 82 (82 + a.size)).toList == a.toList) = true := by
  obtain ⟨h0, _⟩ := sizes hk
  have h0' : k.c0.data.toList.length = 82 := h0
  have ha : a.data.toList.length = a.size := rfl
  have h : (wv k a).extract 82 (82 + a.size) = a := by
    apply ByteArray.ext
    apply Array.ext'
    rw [extract_list]
    simp only [wv, ByteArray.data_append, Array.toList_append, List.append_assoc]
    rw [← h0', ← ha, List.take_length_add_append, List.drop_left, List.take_append_of_le_length (by omega), List.take_of_length_le (by omega)]
  rw [h]
  simp

set_option maxHeartbeats 1000000 in
set_option maxRecDepth 100000 in
theorem walk (a0 : ByteArray) (w0 : a0.size ≤ maxLen) (w : World) :
    Calls Try.prog 4 #[.string a0] w fun e w' => e = .returned (.bool true) ∧ Grown w w' := by
  obtain ⟨k, hk⟩ : ∃ k, IsK k := ⟨_, rfl⟩
  go_enter Try.func4, Try.ntmps4
  go_wp2_with fail
  refine (zz_any a0 w0 w).mono ?_
  rintro e w' ⟨⟨b, rfl⟩, rfl⟩
  unfold maxLen at w0
  cases b
  · go_wp2
    go_ret
    exact ⟨rfl, Grown.refl _⟩
  by_cases hA : a0.size ≤ 65536
  case neg =>
    go_wp2
    go_ret
    exact ⟨rfl, Grown.refl _⟩
  have H0 := zzWalk_any k hk ⟨#[]⟩ (by decide) w'
  have H1 := zzWalk_any k hk a0 hA w'
  have HD := day_eq hk a0
  have HH := head_eq hk a0 ⟨#[]⟩
  have hz1 := wv_size hk a0
  have hz0 := wv_size hk ⟨#[]⟩
  have HF := firstAt_any (wv k ⟨#[]⟩) ⟨#[70, 82, 79, 77, 32, 32, 109]⟩ 77 (by rw [hz0]; decide) (by decide) (by decide) (by rw [hz0]; decide) (first_none hk) (first_at hk)
  obtain ⟨E, hE⟩ : ∃ E, E = wv k ⟨#[]⟩ := ⟨_, rfl⟩
  obtain ⟨G, hG⟩ : ∃ G, G = wv k a0 := ⟨_, rfl⟩
  rw [← hE] at H0 HH hz0 HF
  rw [← hG] at H1 HD HH hz1
  have hz0' : E.size = 838 := hz0
  have HF' : ∀ w, Calls Try.prog 11 #[.string E, .string ⟨#[70, 82, 79, 77, 32, 32, 109]⟩] w fun e w' => e = .returned (.int .i64 77) ∧ ∃ q, w' = w.drewN q := HF
  clear HF
  clear hE hG hk hz0
  go_wp2_with fail
  refine H0.mono ?_
  rintro e w2 ⟨rfl, rfl⟩
  go_wp2_with fail
  refine H1.mono ?_
  rintro e w3 ⟨rfl, rfl⟩
  go_wp2_with fail
  refine (HF' w3).mono ?_
  rintro e w4 ⟨rfl, q, rfl⟩
  clear HF' H0 H1
  have hdv : (838 + 4 * (a0.size : Int) - 838) / 4 = (a0.size : Int) := by omega
  have hb1 : (82 : Int) ≤ 838 + 4 * (a0.size : Int) := by omega
  have hb2 : 82 + (a0.size : Int) ≤ 838 + 4 * (a0.size : Int) := by omega
  have hwr : IntKind.i64.wrap (82 + (a0.size : Int)) = 82 + (a0.size : Int) := IntWalk.i64_in _ (by omega)
  have hnn : (82 : Int) ≤ 82 + (a0.size : Int) := by omega
  go_wp2
  go_quiet (fail)
  go_wp2
  go_ret
  exact ⟨rfl, Grown.refl w3⟩

/-! ### THE ROW's STEP: WRITTEN OUT: LEAVE IT -/
set_option maxRecDepth 100000 in
theorem lifted (os : Os) (started : os.Started) (H : Type) (enc : TypeId × Value → H) :
    ReturnsInHanded {} Try.checked os 4 .any (Rows.fnWalkValuesDayReadsBackSpec.pre6 enc Try.prog Try.f4 Rows.fnWalkValuesDayReadsBackRow.domain false) (Rows.fnWalkValuesDayReadsBackSpec.post enc Try.prog Try.f4 false true false false) := by
  refine returnsInHanded_of_change (C := Try.checked) own started (by kernel_rfl) Try.func4
    (ChangeSpec.witness6 (enc := enc) (C := Try.checked) false ⟨#[], #[.string ByteArray.empty], []⟩ 8 (by kernel_rfl) (by kernel_rfl) (by kernel_rfl) (by kernel_rfl)) ?_
  intro W base args ds gs before hval0 hW hcnd _
  have hval : ∀ (j : Nat) t v, Try.f4.params[j]? = some t → args[j]? = some v → Value.okWide Try.prog W .any base t v := hval0
  have hW' := hW
  obtain ⟨p, q, hA0, hV, rfl, hfz, hnd⟩ := hW
  have hA : DataW.TrodAll enc Try.prog W 0 (fun _ => true) true Try.f4.params.toList args.toList ds p := hA0
  rw [Try.params4] at hA hval
  obtain ⟨v0, vs0, d0, ds0, p0, q0, hargs, rfl, rfl, h0, r0⟩ := trodAll_cons hA
  obtain ⟨rfl, rfl, rfl⟩ := trodAll_nil r0
  obtain rfl : args = #[v0] := by cases args; simp_all
  obtain ⟨rfl, rfl⟩ := trodVars_none hV
  obtain ⟨a0, rfl, rfl, rfl, w0⟩ := open_string Try.underlying9 (hval 0 9 v0 rfl rfl) h0
  clear hA0 hval0
  simp only [List.append_nil] at hW'
  refine (walk a0 w0 W).mono fun e W' ⟨he, hg⟩ => ?_
  subst he
  exact ⟨_, rfl, post_of_same (pa := []) (pv := []) hW' (fun _ _ _ => (trodAll_cons_mk (shut_bool Try.underlying4 _) trodAll_mk0)) (fun sp _ => (trodAll_cons_mk (shut_string Try.underlying9 w0) trodAll_mk0)) (fun _ _ => rfl) rfl
    (hg.frame _) hg.2.1 (ok_one (by kernel_rfl) rfl (okWide_bool_mk Try.underlying4 _))⟩

theorem over : Rows.fnWalkValuesDayReadsBackRow.holds Try.pinned (OpenSpec.ofChange Rows.fnWalkValuesDayReadsBackSpec) :=
  OpenClaim.holds_of_wide 4 Try.f4 rfl rfl rfl rfl rfl rfl rfl ⟨rfl, rfl, rfl, rfl, rfl⟩ rfl rfl rfl rfl rfl (by kernel_rfl) Try.func4 (by kernel_rfl)
    (of_decide_eq_true (by kernel_rfl)) (by unfold Func.isWrapper; first | (rw [if_pos (by decide +kernel)]; kernel_rfl) | (rw [if_neg (by decide +kernel)]; exact ⟨rfl, rfl⟩))
    (fun os started H enc _ => lifted os started H enc)

/-- ████ THE STATEMENT ████ -/
theorem proved : Rows.FnWalkValuesDayReadsBackSaid :=
  over
#print axioms proved
end Go.Proofs.Qxb6601086a.fnWalkValuesDayReadsBack
