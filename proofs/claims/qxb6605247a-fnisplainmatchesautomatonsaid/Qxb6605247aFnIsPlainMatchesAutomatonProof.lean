/-
  THE PROOF OF 'Rows.FnIsPlainMatchesAutomatonSaid': the kit's shell (proof-skeleton.mjs) for this function, its hole filled.
-/
import Derived.Test.Qxb6605247aRows
import Derived.Test.Qxb6605247aWalkA
import Derived.WalkKit
import Derived.ProofKit
import Derived.OpenShut
import Derived.ShutString
namespace Go.Proofs.Qxb6605247a.fnIsPlainMatchesAutomaton
open Go.ChangeShapes Go.WideShapes Go.ChangeAt Go.RowKit
open Go.ChangeMaps (open_string shut_string)
set_option linter.unusedVariables false      -- a walk need not use every 'w<i>' (that an integer argument fits its kind)

theorem own : ownKnob Try.prog.godebug = none := by kernel_rfl

/-! ### THE WALK -/
theorem zz_any (a : ByteArray) (ha : a.size ≤ maxLen) (w : World) : Calls Try.prog 5 #[.string a] w fun e w' => RetB e ∧ w' = w := by
  unfold maxLen at *
  go_enter Try.func5, Try.ntmps5
  go_wp2
  all_goals
    go_ret
    exact ⟨⟨_, rfl⟩, rfl⟩

theorem run_end (st : Nat) : run st [] = (((st : Int) == 2) || ((st : Int) == 4)) := by
  have h : ∀ n : Nat, (st == n) = ((st : Int) == (n : Int)) := fun n => by rw [Bool.eq_iff_iff]; simp; omega
  simp only [run]
  rw [h, h]
  rfl

set_option maxHeartbeats 2000000 in
theorem auto_any (s : ByteArray) (hs : s.size ≤ 1048576) (w : World) :
    Calls Try.prog 7 #[.string s] w fun e w' => e = .returned (.bool (run 0 s.data.toList)) ∧ w' = w := by
  go_enter Try.func7, Try.ntmps7
  go_wp2
  go_loop [3, 4] (fun x y => ∃ st i : Nat, i ≤ s.size ∧ st ≤ 4 ∧ x = .int .i64 st ∧ y = .int .i64 i ∧ run 0 s.data.toList = run st (s.data.toList.drop i)) (fun _ y => s.size - (intOf y).toNat)
  case atStart => exact ⟨0, 0, by omega, by omega, by go_num, by go_num, by rfl⟩
  case round =>
    obtain ⟨st, i, hi, hst, rfl, rfl, hrun⟩ := hrel
    have HR : Hid (run 0 s.data.toList = run st (s.data.toList.drop i)) := hrun
    clear hrun
    by_cases hlt : i < s.size
    · have HDA : Hid (s.data.toList.drop i = s[i] :: s.data.toList.drop (i + 1)) := drop_at s i hlt
      by_cases hd : 48 ≤ s[i].toNat ∧ s[i].toNat ≤ 57
      · obtain ⟨hd1, hd2⟩ := hd
        have FD : Hid (dig s[i] = true) := (dig_iff _).2 ⟨hd1, hd2⟩
        have F45 : Hid (¬ s[i].toNat = 45) := show ¬ s[i].toNat = 45 by omega
        have F46 : Hid (¬ s[i].toNat = 46) := show ¬ s[i].toNat = 46 by omega
        have e45 : ((s[i].toNat : Int) == 45) = false := by simp; omega
        have e46 : ((s[i].toNat : Int) == 46) = false := by simp; omega
        have b1 : (48 : Int) ≤ (s[i].toNat : Int) := by omega
        have b2 : (s[i].toNat : Int) ≤ 57 := by omega
        clear hd1 hd2
        rcases (by omega : st = 0 ∨ st = 1 ∨ st = 2 ∨ st = 3 ∨ st = 4) with rfl | rfl | rfl | rfl | rfl
        · have HN : Hid (run 0 (s.data.toList.drop i) = run 2 (s.data.toList.drop (i + 1))) := by rw [HDA.out]; exact (by rw [run0, if_neg F45.out, if_pos FD.out]; exact rfl)
          go_wp2
          go_round
          case rel => exact ⟨2, i + 1, by omega, by omega, by go_num, by go_num, by rw [HR.out, HN.out]⟩
          case measure => simp [intOf]; omega
        · have HN : Hid (run 1 (s.data.toList.drop i) = run 2 (s.data.toList.drop (i + 1))) := by rw [HDA.out]; exact (by rw [run1, if_pos FD.out]; exact rfl)
          go_wp2
          go_round
          case rel => exact ⟨2, i + 1, by omega, by omega, by go_num, by go_num, by rw [HR.out, HN.out]⟩
          case measure => simp [intOf]; omega
        · have HN : Hid (run 2 (s.data.toList.drop i) = run 2 (s.data.toList.drop (i + 1))) := by rw [HDA.out]; exact (by rw [run2, if_neg F46.out, if_pos FD.out]; exact rfl)
          go_wp2
          go_round
          case rel => exact ⟨2, i + 1, by omega, by omega, by go_num, by go_num, by rw [HR.out, HN.out]⟩
          case measure => simp [intOf]; omega
        · have HN : Hid (run 3 (s.data.toList.drop i) = run 4 (s.data.toList.drop (i + 1))) := by rw [HDA.out]; exact (by rw [run3, if_pos FD.out]; exact rfl)
          go_wp2
          go_round
          case rel => exact ⟨4, i + 1, by omega, by omega, by go_num, by go_num, by rw [HR.out, HN.out]⟩
          case measure => simp [intOf]; omega
        · have HN : Hid (run 4 (s.data.toList.drop i) = run 4 (s.data.toList.drop (i + 1))) := by rw [HDA.out]; exact (by rw [run4, if_pos FD.out]; exact rfl)
          go_wp2
          go_round
          case rel => exact ⟨4, i + 1, by omega, by omega, by go_num, by go_num, by rw [HR.out, HN.out]⟩
          case measure => simp [intOf]; omega
      · have FD : Hid (¬ dig s[i] = true) := fun h => hd ((dig_iff _).1 h)
        by_cases h45 : s[i].toNat = 45
        · have F45 : Hid (s[i].toNat = 45) := h45
          have F46 : Hid (¬ s[i].toNat = 46) := show ¬ s[i].toNat = 46 by omega
          have e45 : ((s[i].toNat : Int) == 45) = true := by rw [h45]; rfl
          have e46 : ((s[i].toNat : Int) == 46) = false := by simp; omega
          have b1 : ¬ (48 : Int) ≤ (s[i].toNat : Int) := by omega
          clear hd h45
          rcases (by omega : st = 0 ∨ st = 1 ∨ st = 2 ∨ st = 3 ∨ st = 4) with rfl | rfl | rfl | rfl | rfl
          · have HN : Hid (run 0 (s.data.toList.drop i) = run 1 (s.data.toList.drop (i + 1))) := by rw [HDA.out]; exact (by rw [run0, if_pos F45.out]; exact rfl)
            go_wp2
            go_round
            case rel => exact ⟨1, i + 1, by omega, by omega, by go_num, by go_num, by rw [HR.out, HN.out]⟩
            case measure => simp [intOf]; omega
          · have HN : Hid (run 1 (s.data.toList.drop i) = false) := by rw [HDA.out]; exact (by rw [run1, if_neg FD.out]; exact rfl)
            go_wp2
            go_ret
            rw [HR.out, HN.out]
            exact ⟨rfl, rfl⟩
          · have HN : Hid (run 2 (s.data.toList.drop i) = false) := by rw [HDA.out]; exact (by rw [run2, if_neg F46.out, if_neg FD.out]; exact rfl)
            go_wp2
            go_ret
            rw [HR.out, HN.out]
            exact ⟨rfl, rfl⟩
          · have HN : Hid (run 3 (s.data.toList.drop i) = false) := by rw [HDA.out]; exact (by rw [run3, if_neg FD.out]; exact rfl)
            go_wp2
            go_ret
            rw [HR.out, HN.out]
            exact ⟨rfl, rfl⟩
          · have HN : Hid (run 4 (s.data.toList.drop i) = false) := by rw [HDA.out]; exact (by rw [run4, if_neg FD.out]; exact rfl)
            go_wp2
            go_ret
            rw [HR.out, HN.out]
            exact ⟨rfl, rfl⟩
        · by_cases h46 : s[i].toNat = 46
          · have F45 : Hid (¬ s[i].toNat = 45) := h45
            have F46 : Hid (s[i].toNat = 46) := h46
            have e45 : ((s[i].toNat : Int) == 45) = false := by simp; omega
            have e46 : ((s[i].toNat : Int) == 46) = true := by rw [h46]; rfl
            have b1 : ¬ (48 : Int) ≤ (s[i].toNat : Int) := by omega
            clear hd h45 h46
            rcases (by omega : st = 0 ∨ st = 1 ∨ st = 2 ∨ st = 3 ∨ st = 4) with rfl | rfl | rfl | rfl | rfl
            · have HN : Hid (run 0 (s.data.toList.drop i) = false) := by rw [HDA.out]; exact (by rw [run0, if_neg F45.out, if_neg FD.out]; exact rfl)
              go_wp2
              go_ret
              rw [HR.out, HN.out]
              exact ⟨rfl, rfl⟩
            · have HN : Hid (run 1 (s.data.toList.drop i) = false) := by rw [HDA.out]; exact (by rw [run1, if_neg FD.out]; exact rfl)
              go_wp2
              go_ret
              rw [HR.out, HN.out]
              exact ⟨rfl, rfl⟩
            · have HN : Hid (run 2 (s.data.toList.drop i) = run 3 (s.data.toList.drop (i + 1))) := by rw [HDA.out]; exact (by rw [run2, if_pos F46.out]; exact rfl)
              go_wp2
              go_round
              case rel => exact ⟨3, i + 1, by omega, by omega, by go_num, by go_num, by rw [HR.out, HN.out]⟩
              case measure => simp [intOf]; omega
            · have HN : Hid (run 3 (s.data.toList.drop i) = false) := by rw [HDA.out]; exact (by rw [run3, if_neg FD.out]; exact rfl)
              go_wp2
              go_ret
              rw [HR.out, HN.out]
              exact ⟨rfl, rfl⟩
            · have HN : Hid (run 4 (s.data.toList.drop i) = false) := by rw [HDA.out]; exact (by rw [run4, if_neg FD.out]; exact rfl)
              go_wp2
              go_ret
              rw [HR.out, HN.out]
              exact ⟨rfl, rfl⟩
          · have F45 : Hid (¬ s[i].toNat = 45) := h45
            have F46 : Hid (¬ s[i].toNat = 46) := h46
            have e45 : ((s[i].toNat : Int) == 45) = false := by simp; omega
            have e46 : ((s[i].toNat : Int) == 46) = false := by simp; omega
            have key : (s[i].toNat : Int) < 48 ∨ 57 < (s[i].toNat : Int) := by omega
            clear hd h45 h46
            rcases key with key | key
            · have b1 : ¬ (48 : Int) ≤ (s[i].toNat : Int) := by omega
              rcases (by omega : st = 0 ∨ st = 1 ∨ st = 2 ∨ st = 3 ∨ st = 4) with rfl | rfl | rfl | rfl | rfl
              · have HN : Hid (run 0 (s.data.toList.drop i) = false) := by rw [HDA.out]; exact (by rw [run0, if_neg F45.out, if_neg FD.out]; exact rfl)
                go_wp2
                go_ret
                rw [HR.out, HN.out]
                exact ⟨rfl, rfl⟩
              · have HN : Hid (run 1 (s.data.toList.drop i) = false) := by rw [HDA.out]; exact (by rw [run1, if_neg FD.out]; exact rfl)
                go_wp2
                go_ret
                rw [HR.out, HN.out]
                exact ⟨rfl, rfl⟩
              · have HN : Hid (run 2 (s.data.toList.drop i) = false) := by rw [HDA.out]; exact (by rw [run2, if_neg F46.out, if_neg FD.out]; exact rfl)
                go_wp2
                go_ret
                rw [HR.out, HN.out]
                exact ⟨rfl, rfl⟩
              · have HN : Hid (run 3 (s.data.toList.drop i) = false) := by rw [HDA.out]; exact (by rw [run3, if_neg FD.out]; exact rfl)
                go_wp2
                go_ret
                rw [HR.out, HN.out]
                exact ⟨rfl, rfl⟩
              · have HN : Hid (run 4 (s.data.toList.drop i) = false) := by rw [HDA.out]; exact (by rw [run4, if_neg FD.out]; exact rfl)
                go_wp2
                go_ret
                rw [HR.out, HN.out]
                exact ⟨rfl, rfl⟩
            · have b1 : (48 : Int) ≤ (s[i].toNat : Int) := by omega
              have b2 : decide ((s[i].toNat : Int) ≤ 57) = false := by simp; omega
              rcases (by omega : st = 0 ∨ st = 1 ∨ st = 2 ∨ st = 3 ∨ st = 4) with rfl | rfl | rfl | rfl | rfl
              · have HN : Hid (run 0 (s.data.toList.drop i) = false) := by rw [HDA.out]; exact (by rw [run0, if_neg F45.out, if_neg FD.out]; exact rfl)
                go_wp2
                go_ret
                rw [HR.out, HN.out]
                exact ⟨rfl, rfl⟩
              · have HN : Hid (run 1 (s.data.toList.drop i) = false) := by rw [HDA.out]; exact (by rw [run1, if_neg FD.out]; exact rfl)
                go_wp2
                go_ret
                rw [HR.out, HN.out]
                exact ⟨rfl, rfl⟩
              · have HN : Hid (run 2 (s.data.toList.drop i) = false) := by rw [HDA.out]; exact (by rw [run2, if_neg F46.out, if_neg FD.out]; exact rfl)
                go_wp2
                go_ret
                rw [HR.out, HN.out]
                exact ⟨rfl, rfl⟩
              · have HN : Hid (run 3 (s.data.toList.drop i) = false) := by rw [HDA.out]; exact (by rw [run3, if_neg FD.out]; exact rfl)
                go_wp2
                go_ret
                rw [HR.out, HN.out]
                exact ⟨rfl, rfl⟩
              · have HN : Hid (run 4 (s.data.toList.drop i) = false) := by rw [HDA.out]; exact (by rw [run4, if_neg FD.out]; exact rfl)
                go_wp2
                go_ret
                rw [HR.out, HN.out]
                exact ⟨rfl, rfl⟩
    · obtain rfl : i = s.size := by omega
      have hnil : s.data.toList.drop s.size = [] := List.drop_eq_nil_of_le (Nat.le_refl _)
      have HF : Hid (run 0 s.data.toList = (((st : Int) == 2) || ((st : Int) == 4))) := by have := HR.out; rw [hnil, run_end] at this; exact this
      clear hnil
      go_wp2
      all_goals
        go_ret
        refine ⟨?_, rfl⟩
        rw [HF.out]
        simp_all

set_option maxRecDepth 100000 in
theorem walk (a0 : ByteArray) (w0 : a0.size ≤ maxLen) (w : World) :
    Calls Try.prog 3 #[.string a0] w fun e w' => e = .returned (.bool true) ∧ Grown w w' := by
  go_enter Try.func3, Try.ntmps3
  go_wp2_with fail
  refine (zz_any a0 w0 w).mono ?_
  rintro e w' ⟨⟨b, rfl⟩, rfl⟩
  unfold maxLen at w0
  cases b
  · go_wp2
    go_ret
    exact ⟨rfl, Grown.refl _⟩
  by_cases hA : a0.size ≤ 1048576
  case neg =>
    go_wp2
    go_ret
    exact ⟨rfl, Grown.refl _⟩
  have H0 := zzIsPlain_any a0 (by omega) w'
  have H1 := auto_any a0 hA w'
  rw [run_strip] at H0
  obtain ⟨r, hr⟩ : ∃ r, r = run 0 a0.data.toList := ⟨_, rfl⟩
  rw [← hr] at H0 H1
  clear hr
  go_wp2_with fail
  refine H0.mono ?_
  rintro e w2 ⟨rfl, rfl⟩
  go_wp2_with fail
  refine H1.mono ?_
  rintro e w3 ⟨rfl, rfl⟩
  cases r
  all_goals
    go_wp2
    go_ret
    exact ⟨rfl, Grown.refl _⟩

/-! ### THE ROW's STEP: WRITTEN OUT: LEAVE IT -/
set_option maxRecDepth 100000 in
theorem lifted (os : Os) (started : os.Started) (H : Type) (enc : TypeId × Value → H) :
    ReturnsInHanded {} Try.checked os 3 .any (Rows.fnIsPlainMatchesAutomatonSpec.pre6 enc Try.prog Try.f3 Rows.fnIsPlainMatchesAutomatonRow.domain false) (Rows.fnIsPlainMatchesAutomatonSpec.post enc Try.prog Try.f3 false true false false) := by
  refine returnsInHanded_of_change (C := Try.checked) own started (by kernel_rfl) Try.func3
    (ChangeSpec.witness6 (enc := enc) (C := Try.checked) false ⟨#[], #[.string ByteArray.empty], []⟩ 8 (by kernel_rfl) (by kernel_rfl) (by kernel_rfl) (by kernel_rfl)) ?_
  intro W base args ds gs before hval0 hW hcnd _
  have hval : ∀ (j : Nat) t v, Try.f3.params[j]? = some t → args[j]? = some v → Value.okWide Try.prog W .any base t v := hval0
  have hW' := hW
  obtain ⟨p, q, hA0, hV, rfl, hfz, hnd⟩ := hW
  have hA : DataW.TrodAll enc Try.prog W 0 (fun _ => true) true Try.f3.params.toList args.toList ds p := hA0
  rw [Try.params3] at hA hval
  obtain ⟨v0, vs0, d0, ds0, p0, q0, hargs, rfl, rfl, h0, r0⟩ := trodAll_cons hA
  obtain ⟨rfl, rfl, rfl⟩ := trodAll_nil r0
  obtain rfl : args = #[v0] := by cases args; simp_all
  obtain ⟨rfl, rfl⟩ := trodVars_none hV
  obtain ⟨a0, rfl, rfl, rfl, w0⟩ := open_string Try.underlying9 (hval 0 9 v0 rfl rfl) h0
  clear hA0 hval0
  simp only [List.append_nil] at hW'
  refine (walk a0 w0 W).mono fun e W' ⟨he, hg⟩ => ?_
  subst he
  exact ⟨_, rfl, post_of_same (pa := []) (pv := []) hW' (fun _ _ _ => (trodAll_cons_mk (shut_bool Try.underlying4 _) trodAll_mk0)) (fun sp _ => (trodAll_cons_mk (shut_string Try.underlying9 w0) trodAll_mk0)) (fun _ _ => rfl) rfl
    (hg.frame _) hg.2.1 (ok_one (by kernel_rfl) rfl (okWide_bool_mk Try.underlying4 _))⟩

theorem over : Rows.fnIsPlainMatchesAutomatonRow.holds Try.pinned (OpenSpec.ofChange Rows.fnIsPlainMatchesAutomatonSpec) :=
  OpenClaim.holds_of_wide 3 Try.f3 rfl rfl rfl rfl rfl rfl rfl ⟨rfl, rfl, rfl, rfl, rfl⟩ rfl rfl rfl rfl rfl (by kernel_rfl) Try.func3 (by kernel_rfl)
    (of_decide_eq_true (by kernel_rfl)) (by unfold Func.isWrapper; first | (rw [if_pos (by decide +kernel)]; kernel_rfl) | (rw [if_neg (by decide +kernel)]; exact ⟨rfl, rfl⟩))
    (fun os started H enc _ => lifted os started H enc)

/-- ████ THE STATEMENT ████ -/
theorem proved : Rows.FnIsPlainMatchesAutomatonSaid :=
  over
#print axioms proved
end Go.Proofs.Qxb6605247a.fnIsPlainMatchesAutomaton
