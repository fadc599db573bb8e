/-
  THE WALK OF isPlain; strings.TrimPrefix by the shelf's contract, laid by the kit's lay-shelf and lay-plain tools.
-/
import Derived.Test.Qxb6605247aPlain
import Derived.Test.Qxb6605247aProg
import Derived.Shelf.Strings.Prefix
import Derived.WalkKit
namespace Go.Proofs.Qxb6605247a
open Go.Shelf Go.RowKit
def Try.lays101_ren : Go.Shelf.Ren := ⟨fun | 101 => 12 | 208 => 13 | 206 => 14 | n => n, fun | 9 => 9 | 4 => 4 | 3 => 3 | n => n, fun | n => n⟩
theorem Try.lays101 : Go.Proofs.Lays.n101 Try.prog Try.lays101_ren := {
  mixed := by kernel_rfl
  f101 := Try.func12.trans (congrArg some (by kernel_rfl))
  f206 := Try.func14.trans (congrArg some (by kernel_rfl))
  f208 := Try.func13.trans (congrArg some (by kernel_rfl))
  t3 := Try.underlying3
  a3 := Try.isAgg3
  z3 := Try.sizeOf3
  v3 := Try.zeroValue3
  t4 := Try.underlying4
  a4 := Try.isAgg4
  z4 := Try.sizeOf4
  v4 := Try.zeroValue4
  t9 := Try.underlying9
  a9 := Try.isAgg9
  z9 := Try.sizeOf9
  v9 := Try.zeroValue9 }

/-- strings.TrimPrefix(s, "-"), by the shelf. -/
theorem trim_any (s : ByteArray) (D : ByteArray) (hD : D.data.toList = strip s.data.toList) (w : World) :
    Calls Try.prog 12 #[.string s, .string ⟨#[45]⟩] w fun e w' => e = .returned (.string D) ∧ w' = w := by
  have h : (⟨(Lib.trimPrefix s.data.toList [45]).toArray⟩ : ByteArray) = D := by
    apply ByteArray.ext
    apply Array.ext'
    rw [hD]
    rfl
  refine (Any.strings_TrimPrefix Try.lays101 s ⟨#[45]⟩ w).mono ?_
  rintro e w' ⟨rfl, rfl⟩
  exact ⟨by rw [← h], rfl⟩

theorem drop_at (s : ByteArray) (k : Nat) (h : k < s.size) : s.data.toList.drop k = s[k] :: s.data.toList.drop (k + 1) := by
  rw [List.drop_eq_getElem_cons (show k < s.data.toList.length from h)]; rfl

theorem fin {D : ByteArray} {p : Int} (hp : p < D.size) (h1 : -1 ≤ p) (h : run 1 D.data.toList = nxt D.size p []) : run 1 D.data.toList = (!D.toList.isEmpty && p != 0 && p != (D.size : Int) - 1) := by
  have e : D.toList.isEmpty = (D.size == 0) := by
    rw [ByteArray.toList_eq]
    have hs : D.size = D.data.toList.length := rfl
    rw [hs]
    cases D.data.toList <;> simp
  rw [h, nxt_end _ _ hp h1, e]
  rfl

set_option maxHeartbeats 400000 in
theorem isPlain_any (s : ByteArray) (hs : s.size ≤ 1048577) (w : World) :
    Calls Try.prog 10 #[.string s] w fun e w' => e = .returned (.bool (run 1 (strip s.data.toList))) ∧ w' = w := by
  obtain ⟨D, hD⟩ : ∃ D : ByteArray, D.data.toList = strip s.data.toList := ⟨⟨(strip s.data.toList).toArray⟩, by simp⟩
  have hDs : D.size ≤ s.size := by
    show D.data.toList.length ≤ s.data.toList.length
    rw [hD]
    unfold strip Lib.trimPrefix
    split <;> simp
  have HT := trim_any s D hD w
  rw [← hD]
  clear hD
  go_enter Try.func10, Try.ntmps10
  go_wp2_with fail
  refine HT.mono ?_
  rintro e w' ⟨rfl, rfl⟩
  clear HT
  go_wp2
  go_loop [4, 5] (fun x y => ∃ (p : Int) (i : Nat), i ≤ D.size ∧ -1 ≤ p ∧ p < i ∧ x = .int .i64 p ∧ y = .int .i64 i ∧ run 1 D.data.toList = nxt i p (D.data.toList.drop i)) (fun _ y => D.size - (intOf y).toNat)
  case atStart => exact ⟨-1, 0, by omega, by omega, by omega, by go_num, by go_num, by rw [nxt_first (by omega)]; rfl⟩
  case round =>
    obtain ⟨p, i, hi, hp1, hp2, rfl, rfl, hrun⟩ := hrel
    have HR : Hid (run 1 D.data.toList = nxt i p (D.data.toList.drop i)) := hrun
    clear hrun
    by_cases hlt : i < D.size
    · have HDA : Hid (D.data.toList.drop i = D[i] :: D.data.toList.drop (i + 1)) := drop_at D i hlt
      by_cases hd : 48 ≤ D[i].toNat ∧ D[i].toNat ≤ 57
      · obtain ⟨hd1, hd2⟩ := hd
        have HN : Hid (nxt i p (D.data.toList.drop i) = nxt (i + 1) p (D.data.toList.drop (i + 1))) := by
          rw [HDA.out]; exact nxt_dig i p hp2 _ _ ((dig_iff _).2 ⟨hd1, hd2⟩)
        go_wp2
        go_round
        case rel => exact ⟨p, i + 1, by omega, hp1, by omega, by go_num, by go_num, by rw [HR.out, HN.out]⟩
        case measure => simp [intOf]; omega
      · have hdf : dig D[i] = false := by
          cases h : dig D[i] with
          | false => rfl
          | true => exact absurd ((dig_iff _).1 h) hd
        have HDF : Hid (dig D[i] = false) := hdf
        clear hdf
        by_cases hpt : D[i].toNat = 46 ∧ p < 0
        · obtain ⟨hpt, hpn⟩ := hpt
          have e46 : ((D[i].toNat : Int) == 46) = true := by rw [hpt]; rfl
          have HN : Hid (nxt i p (D.data.toList.drop i) = nxt (i + 1) i (D.data.toList.drop (i + 1))) := by
            rw [HDA.out]; exact nxt_point i _ _ p hpn hpt
          have hlo : ¬ (48 : Int) ≤ (D[i].toNat : Int) := by omega
          clear hpt hd
          go_wp2
          go_round
          case rel => exact ⟨i, i + 1, by omega, by omega, by omega, by go_num, by go_num, by rw [HR.out, HN.out]⟩
          case measure => simp [intOf]; omega
        · have HN : Hid (nxt i p (D.data.toList.drop i) = false) := by rw [HDA.out]; exact nxt_stop i p _ _ HDF.out hpt
          have key : ((D[i].toNat : Int) < 48 ∨ 57 < (D[i].toNat : Int)) := by omega
          by_cases h46 : D[i].toNat = 46
          · have e46 : ((D[i].toNat : Int) == 46) = true := by rw [h46]; rfl
            have hpn : 0 ≤ p := by omega
            have hlo : ¬ (48 : Int) ≤ (D[i].toNat : Int) := by omega
            clear h46 hd hpt key
            go_wp2
            go_ret
            rw [HR.out, HN.out]
            exact ⟨rfl, rfl⟩
          · have e46 : ((D[i].toNat : Int) == 46) = false := by simp; omega
            clear hd hpt
            rcases key with key | key
            · have hlo : ¬ (48 : Int) ≤ (D[i].toNat : Int) := by omega
              clear h46
              go_wp2
              go_ret
              rw [HR.out, HN.out]
              exact ⟨rfl, rfl⟩
            · have hhi : ¬ (D[i].toNat : Int) ≤ 57 := by omega
              have hlo : (48 : Int) ≤ (D[i].toNat : Int) := by omega
              clear h46
              go_wp2
              go_ret
              rw [HR.out, HN.out]
              exact ⟨rfl, rfl⟩
    · obtain rfl : i = D.size := by omega
      have hnil : D.data.toList.drop D.size = [] := List.drop_eq_nil_of_le (Nat.le_refl _)
      have HF : Hid (run 1 D.data.toList = (!D.toList.isEmpty && p != 0 && p != (D.size : Int) - 1)) := fin hp2 hp1 (by rw [HR.out, hnil])
      clear hnil
      go_wp2
      all_goals
        go_ret
        refine ⟨?_, rfl⟩
        rw [HF.out]
        simp_all

theorem zzIsPlain_any (s : ByteArray) (hs : s.size ≤ 1048577) (w : World) :
    Calls Try.prog 6 #[.string s] w fun e w' => e = .returned (.bool (run 1 (strip s.data.toList))) ∧ w' = w := by
  have H := isPlain_any s hs w
  go_enter Try.func6, Try.ntmps6
  go_wp2_with (go_at_call 10; refine H.mono ?_; rintro e w' ⟨rfl, rfl⟩)
  go_ret
  exact ⟨rfl, rfl⟩

/-- A bool. -/
def RetB (e : Ending) : Prop := ∃ b, e = .returned (.bool b)
end Go.Proofs.Qxb6605247a
