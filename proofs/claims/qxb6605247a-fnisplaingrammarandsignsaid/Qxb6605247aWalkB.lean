/-
  THE WALKS OF allDigits AND plainByParts.
-/
import Derived.Test.Qxb6605247aWalkA
namespace Go.Proofs.Qxb6605247a
open Go.RowKit

/-- A non-empty run of digits. -/
def allD (l : List UInt8) : Bool := !l.isEmpty && l.all dig

theorem run4_all (l : List UInt8) : run 4 l = l.all dig := by
  induction l with
  | nil => rfl
  | cons c r ih => rw [run4, List.all_cons, ih]; cases dig c <;> rfl

theorem run3_all (l : List UInt8) : run 3 l = allD l := by
  cases l with
  | nil => rfl
  | cons c r => rw [run3, run4_all]; unfold allD; rw [List.all_cons]; cases dig c <;> simp

theorem run2_all (l : List UInt8) (h : ∀ c ∈ l, ¬ c.toNat = 46) : run 2 l = l.all dig := by
  induction l with
  | nil => rfl
  | cons c r ih =>
    rw [run2, if_neg (h c List.mem_cons_self), List.all_cons, ih (fun x hx => h x (List.mem_cons_of_mem _ hx))]
    cases dig c <;> rfl

theorem run1_all (l : List UInt8) (h : ∀ c ∈ l, ¬ c.toNat = 46) : run 1 l = allD l := by
  cases l with
  | nil => rfl
  | cons c r =>
    rw [run1, run2_all r (fun x hx => h x (List.mem_cons_of_mem _ hx))]
    unfold allD
    rw [List.all_cons]
    cases dig c <;> simp

theorem run2_cut (a b : List UInt8) (c : UInt8) (hc : c.toNat = 46) (h : ∀ x ∈ a, ¬ x.toNat = 46) : run 2 (a ++ c :: b) = (a.all dig && allD b) := by
  induction a with
  | nil => rw [List.nil_append, run2, if_pos hc, run3_all]; rfl
  | cons x r ih =>
    rw [List.cons_append, run2, if_neg (h x List.mem_cons_self), ih (fun y hy => h y (List.mem_cons_of_mem _ hy)), List.all_cons]
    cases dig x <;> simp

theorem run1_cut (a b : List UInt8) (c : UInt8) (hc : c.toNat = 46) (h : ∀ x ∈ a, ¬ x.toNat = 46) : run 1 (a ++ c :: b) = (allD a && allD b) := by
  have hd : dig c = false := by simp [dig, hc]
  cases a with
  | nil => rw [List.nil_append, run1, hd]; rfl
  | cons x r =>
    rw [List.cons_append, run1, run2_cut r b c hc (fun y hy => h y (List.mem_cons_of_mem _ hy))]
    unfold allD
    rw [List.all_cons]
    cases dig x <;> simp

theorem getElem_mem (s : ByteArray) (k : Nat) (h : k < s.size) : s.data.toList[k]'h = s[k] := rfl

theorem byte_lt (c : UInt8) : c.toNat < 256 := c.toNat_lt

set_option maxHeartbeats 400000 in
theorem allDigits_any (t : ByteArray) (ht : t.size ≤ 1048577) (w : World) :
    Calls Try.prog 11 #[.string t] w fun e w' => e = .returned (.bool (allD t.data.toList)) ∧ w' = w := by
  by_cases h0 : t.size = 0
  · have HF : Hid (allD t.data.toList = false) := by
      have : t.data.toList = [] := List.length_eq_zero_iff.1 h0
      rw [this]; exact rfl
    have hz : ((t.size : Int) == 0) = true := by rw [h0]; rfl
    clear h0
    go_enter Try.func11, Try.ntmps11
    go_wp2
    go_ret
    rw [HF.out]
    exact ⟨rfl, rfl⟩
  · have hz : ((t.size : Int) == 0) = false := by rw [beq_eq_false_iff_ne]; omega
    have hpos : 0 < t.size := by omega
    clear h0
    go_enter Try.func11, Try.ntmps11
    go_wp2
    go_loop [3] (fun x => ∃ i : Nat, i ≤ t.size ∧ x = .int .i64 i ∧ ∀ c ∈ t.data.toList.take i, dig c = true) (fun x => t.size - (intOf x).toNat)
    case atStart => exact ⟨0, by omega, by go_num, fun c hc => by simp at hc⟩
    case round =>
      obtain ⟨i, hi, rfl, hall⟩ := hrel
      have HA : Hid (∀ c ∈ t.data.toList.take i, dig c = true) := hall
      clear hall
      by_cases hlt : i < t.size
      · have hmem : t[i] ∈ t.data.toList := List.getElem_mem (show i < t.data.toList.length from hlt)
        have HM : Hid (t[i] ∈ t.data.toList) := hmem
        clear hmem
        by_cases hd : dig t[i] = true
        · have hd' := (dig_iff _).1 hd
          have b1 : ¬ ((t[i].toNat : Int) < 48) := by omega
          have b2 : ¬ (57 < (t[i].toNat : Int)) := by omega
          have HD : Hid (dig t[i] = true) := hd
          clear hd hd'
          go_wp2
          go_round
          case rel =>
            refine ⟨i + 1, by omega, by go_num, fun c hc => ?_⟩
            rw [List.take_succ_eq_append_getElem (show i < t.data.toList.length from hlt)] at hc
            rcases List.mem_append.1 hc with hc | hc
            · exact HA.out c hc
            · rw [List.mem_singleton] at hc; rw [hc]; exact HD.out
          case measure => simp [intOf]; omega
        · have HF : Hid (allD t.data.toList = false) := by
            have : t.data.toList.all dig = false := by
              rw [List.all_eq_false]
              exact ⟨t[i], HM.out, hd⟩
            unfold allD
            rw [this]
            simp [Hid]
          have key : (t[i].toNat : Int) < 48 ∨ (48 ≤ (t[i].toNat : Int) ∧ 57 < (t[i].toNat : Int)) := by
            have : ¬ (48 ≤ t[i].toNat ∧ t[i].toNat ≤ 57) := fun h => hd ((dig_iff _).2 h)
            omega
          clear hd
          rcases key with key | ⟨key1, key2⟩
          · go_wp2
            go_ret
            rw [HF.out]
            exact ⟨rfl, rfl⟩
          · go_wp2
            go_ret
            rw [HF.out]
            exact ⟨rfl, rfl⟩
      · have HF : Hid (allD t.data.toList = true) := by
          have ha : t.data.toList.all dig = true := by
            rw [List.all_eq_true]
            intro c hc
            refine HA.out c ?_
            rw [List.take_of_length_le (show t.data.toList.length ≤ i by have : t.data.toList.length = t.size := rfl; omega)]
            exact hc
          have hn : t.data.toList.isEmpty = false := by
            have : t.data.toList.length = t.size := rfl
            cases hl : t.data.toList with
            | nil => rw [hl] at this; simp at this; omega
            | cons c r => rfl
          unfold allD
          rw [ha, hn]
          exact rfl
        go_wp2
        go_ret
        rw [HF.out]
        exact ⟨rfl, rfl⟩

theorem extract_list (s : ByteArray) (a b : Nat) : (s.extract a b).data.toList = (s.data.toList.take b).drop a := by
  rw [ByteArray.data_extract, Array.toList_extract, List.extract_eq_drop_take']

/-- The two parts at a point. -/
theorem cut_at (D : ByteArray) (i : Nat) (hi : i < D.size) (h46 : D[i].toNat = 46) (hno : ∀ c ∈ D.data.toList.take i, ¬ c.toNat = 46) :
    run 1 D.data.toList = (allD (D.extract 0 i).data.toList && allD (D.extract (i + 1) D.size).data.toList) := by
  have e1 : (D.extract 0 i).data.toList = D.data.toList.take i := by rw [extract_list, List.drop_zero]
  have e2 : (D.extract (i + 1) D.size).data.toList = D.data.toList.drop (i + 1) := by
    rw [extract_list, List.take_of_length_le (show D.data.toList.length ≤ D.size from Nat.le_refl _)]
  rw [e1, e2]
  have hD : D.data.toList = D.data.toList.take i ++ D[i] :: D.data.toList.drop (i + 1) := by
    rw [← drop_at D i hi, List.take_append_drop]
  have := run1_cut (D.data.toList.take i) (D.data.toList.drop (i + 1)) D[i] h46 hno
  rw [← hD] at this
  exact this

theorem strip_size (D : ByteArray) (a b : Nat) : (D.extract a b).size ≤ D.size := by
  show (D.extract a b).data.toList.length ≤ D.data.toList.length
  rw [extract_list]
  simp
  omega

set_option maxHeartbeats 1000000 in
theorem parts_any (s : ByteArray) (hs : s.size ≤ 1048577) (w : World) :
    Calls Try.prog 9 #[.string s] w fun e w' => e = .returned (.bool (run 1 (strip s.data.toList))) ∧ w' = w := by
  obtain ⟨b, hb⟩ : ∃ b, b = run 1 (strip s.data.toList) := ⟨_, rfl⟩
  rw [← hb]
  by_cases h0 : s.size = 0
  · have FIN : Hid (b = run 1 s.data.toList) := by
      have : s.data.toList = [] := List.length_eq_zero_iff.1 h0
      rw [hb, this]; exact rfl
    have hz : ¬ ((0 : Int) < (s.size : Int)) := by omega
    clear hb h0
    go_enter Try.func9, Try.ntmps9
    go_wp2
    go_loop [4, 5] (fun x y => ∃ i : Nat, i ≤ s.size ∧ x = .int .i64 (-1) ∧ y = .int .i64 i ∧ ∀ c ∈ s.data.toList.take i, ¬ c.toNat = 46) (fun _ y => s.size - (intOf y).toNat)
    case atStart => exact ⟨0, by omega, by go_num, by go_num, fun c hc => by simp at hc⟩
    case round =>
      obtain ⟨i, hi, rfl, rfl, hall⟩ := hrel
      have HA : Hid (∀ c ∈ s.data.toList.take i, ¬ c.toNat = 46) := hall
      clear hall
      by_cases hlt : i < s.size
      · omega
      · have HN : Hid (run 1 s.data.toList = allD s.data.toList) := run1_all _ (fun c hc => HA.out c (by rw [List.take_of_length_le (show s.data.toList.length ≤ i by have : s.data.toList.length = s.size := rfl; omega)]; exact hc))
        go_wp2_with fail
        refine (allDigits_any s (by omega) _).mono ?_
        rintro e w1 ⟨rfl, rfl⟩
        go_wp2
        go_ret
        refine ⟨?_, rfl⟩
        rw [FIN.out, HN.out]
        rfl
  have hpos : 0 < s.size := by omega
  have hip : (0 : Int) < (s.size : Int) := by omega
  have hl : s.data.toList = s[0] :: s.data.toList.drop 1 := by have := drop_at s 0 hpos; simpa using this
  clear h0
  by_cases h45 : s[0].toNat = 45
  · obtain ⟨D, hD⟩ : ∃ D, s.extract 1 s.size = D := ⟨_, rfl⟩
    have hDl : D.data.toList = s.data.toList.drop 1 := by rw [← hD, extract_list, List.take_of_length_le (show s.data.toList.length ≤ s.size from Nat.le_refl _)]
    have FIN : Hid (b = run 1 D.data.toList) := by rw [hb, hl, strip_yes _ _ h45, hDl]; exact rfl
    have hDs : D.size ≤ s.size := by rw [← hD]; exact strip_size s 1 s.size
    have e45 : ((s[0].toNat : Int) == 45) = true := by rw [h45]; rfl
    clear hb hl h45 hDl
    go_enter Try.func9, Try.ntmps9
    go_wp2
    go_loop [4, 5] (fun x y => ∃ i : Nat, i ≤ D.size ∧ x = .int .i64 (-1) ∧ y = .int .i64 i ∧ ∀ c ∈ D.data.toList.take i, ¬ c.toNat = 46) (fun _ y => D.size - (intOf y).toNat)
    case atStart => exact ⟨0, by omega, by go_num, by go_num, fun c hc => by simp at hc⟩
    case round =>
      obtain ⟨i, hi, rfl, rfl, hall⟩ := hrel
      have HA : Hid (∀ c ∈ D.data.toList.take i, ¬ c.toNat = 46) := hall
      clear hall
      by_cases hlt : i < D.size
      · by_cases h46 : D[i].toNat = 46
        · have e46 : ((D[i].toNat : Int) == 46) = true := by rw [h46]; rfl
          have HC : Hid (run 1 D.data.toList = (allD (D.extract 0 i).data.toList && allD (D.extract (i + 1) D.size).data.toList)) := cut_at D i hlt h46 HA.out
          have z1 := strip_size D 0 i
          have z2 := strip_size D (i + 1) D.size
          have hwr : IntKind.i64.wrap ((i : Int) + 1) = (i : Int) + 1 := IntWalk.i64_in _ (by omega)
          have hil : (i : Int) + 1 ≤ (D.size : Int) := by omega
          clear h46
          go_wp2_with fail
          refine (allDigits_any (D.extract 0 i) (by omega) _).mono ?_
          rintro e w1 ⟨rfl, rfl⟩
          have HC2 := HC.out
          clear HC
          cases hq : allD (D.extract 0 i).data.toList
          · rw [hq] at HC2
            have HC3 : Hid (run 1 D.data.toList = (false && allD (D.extract (i + 1) D.size).data.toList)) := HC2
            clear HC2 hq
            go_wp2
            go_ret
            refine ⟨?_, rfl⟩
            rw [FIN.out, HC3.out]
            rfl
          · rw [hq] at HC2
            have HC3 : Hid (run 1 D.data.toList = (true && allD (D.extract (i + 1) D.size).data.toList)) := HC2
            clear HC2 hq
            go_wp2_with fail
            have H2 := allDigits_any (D.extract (i + 1) D.size) (by omega) w1
            obtain ⟨r2, hr2⟩ : ∃ r2, r2 = allD (D.extract (i + 1) D.size).data.toList := ⟨_, rfl⟩
            have HR2 : Hid (r2 = allD (D.extract (i + 1) D.size).data.toList) := hr2
            rw [← hr2] at H2
            clear hr2
            refine H2.mono ?_
            rintro e w2 ⟨rfl, rfl⟩
            go_wp2
            go_ret
            refine ⟨?_, rfl⟩
            rw [FIN.out, HC3.out, Bool.true_and, ← HR2.out]
            rfl
        · have e46 : ((D[i].toNat : Int) == 46) = false := by rw [beq_eq_false_iff_ne]; omega
          have H46 : Hid (¬ D[i].toNat = 46) := h46
          clear h46
          go_wp2
          go_round
          case rel =>
            refine ⟨i + 1, by omega, rfl, by go_num, fun c hc => ?_⟩
            rw [List.take_succ_eq_append_getElem (show i < D.data.toList.length from hlt)] at hc
            rcases List.mem_append.1 hc with hc | hc
            · exact HA.out c hc
            · rw [List.mem_singleton] at hc; rw [hc]; exact H46.out
          case measure => simp [intOf]; omega
      · have HN : Hid (run 1 D.data.toList = allD D.data.toList) := run1_all _ (fun c hc => HA.out c (by rw [List.take_of_length_le (show D.data.toList.length ≤ i by have : D.data.toList.length = D.size := rfl; omega)]; exact hc))
        go_wp2_with fail
        refine (allDigits_any D (by omega) _).mono ?_
        rintro e w1 ⟨rfl, rfl⟩
        go_wp2
        go_ret
        refine ⟨?_, rfl⟩
        rw [FIN.out, HN.out]
        rfl
  · have FIN : Hid (b = run 1 s.data.toList) := by rw [hb, hl, strip_no _ _ h45]; exact rfl
    have e45 : ((s[0].toNat : Int) == 45) = false := by rw [beq_eq_false_iff_ne]; omega
    clear hb hl h45
    go_enter Try.func9, Try.ntmps9
    go_wp2
    go_loop [4, 5] (fun x y => ∃ i : Nat, i ≤ s.size ∧ x = .int .i64 (-1) ∧ y = .int .i64 i ∧ ∀ c ∈ s.data.toList.take i, ¬ c.toNat = 46) (fun _ y => s.size - (intOf y).toNat)
    case atStart => exact ⟨0, by omega, by go_num, by go_num, fun c hc => by simp at hc⟩
    case round =>
      obtain ⟨i, hi, rfl, rfl, hall⟩ := hrel
      have HA : Hid (∀ c ∈ s.data.toList.take i, ¬ c.toNat = 46) := hall
      clear hall
      by_cases hlt : i < s.size
      · by_cases h46 : s[i].toNat = 46
        · have e46 : ((s[i].toNat : Int) == 46) = true := by rw [h46]; rfl
          have HC : Hid (run 1 s.data.toList = (allD (s.extract 0 i).data.toList && allD (s.extract (i + 1) s.size).data.toList)) := cut_at s i hlt h46 HA.out
          have z1 := strip_size s 0 i
          have z2 := strip_size s (i + 1) s.size
          have hwr : IntKind.i64.wrap ((i : Int) + 1) = (i : Int) + 1 := IntWalk.i64_in _ (by omega)
          have hil : (i : Int) + 1 ≤ (s.size : Int) := by omega
          clear h46
          go_wp2_with fail
          refine (allDigits_any (s.extract 0 i) (by omega) _).mono ?_
          rintro e w1 ⟨rfl, rfl⟩
          have HC2 := HC.out
          clear HC
          cases hq : allD (s.extract 0 i).data.toList
          · rw [hq] at HC2
            have HC3 : Hid (run 1 s.data.toList = (false && allD (s.extract (i + 1) s.size).data.toList)) := HC2
            clear HC2 hq
            go_wp2
            go_ret
            refine ⟨?_, rfl⟩
            rw [FIN.out, HC3.out]
            rfl
          · rw [hq] at HC2
            have HC3 : Hid (run 1 s.data.toList = (true && allD (s.extract (i + 1) s.size).data.toList)) := HC2
            clear HC2 hq
            go_wp2_with fail
            have H2 := allDigits_any (s.extract (i + 1) s.size) (by omega) w1
            obtain ⟨r2, hr2⟩ : ∃ r2, r2 = allD (s.extract (i + 1) s.size).data.toList := ⟨_, rfl⟩
            have HR2 : Hid (r2 = allD (s.extract (i + 1) s.size).data.toList) := hr2
            rw [← hr2] at H2
            clear hr2
            refine H2.mono ?_
            rintro e w2 ⟨rfl, rfl⟩
            go_wp2
            go_ret
            refine ⟨?_, rfl⟩
            rw [FIN.out, HC3.out, Bool.true_and, ← HR2.out]
            rfl
        · have e46 : ((s[i].toNat : Int) == 46) = false := by rw [beq_eq_false_iff_ne]; omega
          have H46 : Hid (¬ s[i].toNat = 46) := h46
          clear h46
          go_wp2
          go_round
          case rel =>
            refine ⟨i + 1, by omega, rfl, by go_num, fun c hc => ?_⟩
            rw [List.take_succ_eq_append_getElem (show i < s.data.toList.length from hlt)] at hc
            rcases List.mem_append.1 hc with hc | hc
            · exact HA.out c hc
            · rw [List.mem_singleton] at hc; rw [hc]; exact H46.out
          case measure => simp [intOf]; omega
      · have HN : Hid (run 1 s.data.toList = allD s.data.toList) := run1_all _ (fun c hc => HA.out c (by rw [List.take_of_length_le (show s.data.toList.length ≤ i by have : s.data.toList.length = s.size := rfl; omega)]; exact hc))
        go_wp2_with fail
        refine (allDigits_any s (by omega) _).mono ?_
        rintro e w1 ⟨rfl, rfl⟩
        go_wp2
        go_ret
        refine ⟨?_, rfl⟩
        rw [FIN.out, HN.out]
        rfl
end Go.Proofs.Qxb6605247a
