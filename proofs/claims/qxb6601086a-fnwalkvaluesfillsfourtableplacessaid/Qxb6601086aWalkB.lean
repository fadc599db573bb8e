/-
  THE WALKS OF hasAt AND firstAt.
-/
import Derived.Test.Qxb6601086aWalkA
import Derived.BigQuiet
import Derived.BigRegion
import Derived.Deep.QuietTactic
namespace Go.Proofs.Qxb6601086a
open Go.RowKit

/-- Does p stand in l at place i? -/
def isAt (l : List UInt8) (i : Nat) (p : List UInt8) : Bool := (l.drop i).take p.length == p

theorem isAt_true {l p : List UInt8} {i : Nat} (h : ∀ j, j < p.length → l[i + j]? = p[j]?) : isAt l i p = true := by
  unfold isAt
  rw [beq_iff_eq]
  apply List.ext_getElem?
  intro j
  rw [List.getElem?_take, List.getElem?_drop]
  by_cases hj : j < p.length
  · rw [if_pos hj]; exact h j hj
  · rw [if_neg hj, List.getElem?_eq_none (by omega)]

theorem isAt_false {l p : List UInt8} {i j : Nat} (hj : j < p.length) (h : l[i + j]? ≠ p[j]?) : isAt l i p = false := by
  unfold isAt
  rw [beq_eq_false_iff_ne]
  intro e
  apply h
  have := congrArg (·[j]?) e
  simp only [List.getElem?_take, List.getElem?_drop, if_pos hj] at this
  exact this

theorem isAt_long {l p : List UInt8} {i : Nat} (hi : l.length < i + p.length) (hp : 0 < p.length) : isAt l i p = false := by
  refine isAt_false (j := p.length - 1) (by omega) ?_
  rw [List.getElem?_eq_none (by omega), List.getElem?_eq_getElem (by omega)]
  simp

theorem drewN_drewN (w : World) (a b : Nat) : (w.drewN a).drewN b = w.drewN (a + b) := by simp

theorem byte_at (s : ByteArray) (j : Nat) (h : j < s.size) : s.data.toList[j]? = some s[j] := by
  rw [List.getElem?_eq_getElem (show j < s.data.toList.length from h)]
  rfl

theorem bytes_ne {x y : UInt8} (h : ((x.toNat : Int) != (y.toNat : Int)) = true) : x ≠ y := by
  rintro rfl
  simp at h

theorem bytes_eq {x y : UInt8} (h : ((x.toNat : Int) != (y.toNat : Int)) = false) : x = y := by
  simp at h
  exact UInt8.toNat_inj.1 (by omega)

set_option maxHeartbeats 400000 in
theorem hasAt_any (s pat : ByteArray) (i : Nat) (hs : s.size ≤ 1048576) (hp : pat.size ≤ 1048576) (hp0 : 0 < pat.size) (hi : i ≤ s.size) (w : World) :
    Calls Try.prog 8 #[.string s, .int .i64 i, .string pat] w fun e w' => e = .returned (.bool (isAt s.data.toList i pat.data.toList)) ∧ ∃ q, w' = w.drewN q := by
  by_cases hl : s.size < i + pat.size
  · have HF : Hid (isAt s.data.toList i pat.data.toList = false) := isAt_long (show s.data.toList.length < i + pat.data.toList.length from hl) (show 0 < pat.data.toList.length from hp0)
    go_enter Try.func8, Try.ntmps8
    go_wp2
    go_ret
    rw [HF.out]
    exact ⟨rfl, 0, rfl⟩
  · go_enter Try.func8, Try.ntmps8
    go_wp2
    go_loopw [7] (fun x wr => ∃ k : Nat, k ≤ pat.size ∧ x = .int .i64 k ∧ (∀ j, j < k → s.data.toList[i + j]? = pat.data.toList[j]?) ∧ ∃ q, wr = w.drewN q) (fun x _ => pat.size - (intOf x).toNat)
    case atStart => exact ⟨0, by omega, by go_num, fun j hj => absurd hj (by omega), 0, rfl⟩
    case round =>
      obtain ⟨k, hk, rfl, hall, q, rfl⟩ := hrel
      have HA : Hid (∀ j, j < k → s.data.toList[i + j]? = pat.data.toList[j]?) := hall
      clear hall
      by_cases hlt : k < pat.size
      · have h1 : i + k < s.size := by omega
        have h1' : (i : Int) + (k : Int) < (s.size : Int) := by omega
        have h2' : (k : Int) < (pat.size : Int) := by omega
        have hwr : IntKind.i64.wrap ((i : Int) + (k : Int)) = (i : Int) + (k : Int) := IntWalk.i64_in _ (by omega)
        have h3 : (0 : Int) ≤ (i : Int) + (k : Int) := by omega
        go_wp2
        go_quiet (fail)
        go_wp2
        · have hne : (((s[i + k]'h1).toNat : Int) != ((pat[k]'hlt).toNat : Int)) = true := by assumption
          have hF : isAt s.data.toList i pat.data.toList = false := isAt_false (j := k) hlt (by rw [byte_at s (i + k) h1, byte_at pat k hlt]; intro e; exact bytes_ne hne (Option.some.inj e))
          go_ret
          rw [hF]
          exact ⟨rfl, _, drewN_drewN _ _ _⟩
        · have heq : (((s[i + k]'h1).toNat : Int) != ((pat[k]'hlt).toNat : Int)) = false := by assumption
          go_roundw
          case rel =>
            refine ⟨k + 1, by omega, by go_num, fun j hj => ?_, _, rfl⟩
            by_cases e : j = k
            · subst e; rw [byte_at s (i + j) h1, byte_at pat j hlt, bytes_eq heq]
            · exact HA.out j (by omega)
          case measure => simp [intOf]; omega
      · have hT : isAt s.data.toList i pat.data.toList = true := isAt_true fun j hj => HA.out j (by have : pat.data.toList.length = pat.size := rfl; omega)
        have HT : Hid (isAt s.data.toList i pat.data.toList = true) := hT
        clear hT
        go_wp2
        go_ret
        rw [HT.out]
        exact ⟨rfl, _, rfl⟩

set_option maxHeartbeats 400000 in
/-- firstAt where the first place is known. -/
theorem firstAt_any (s pat : ByteArray) (p : Nat) (hs : s.size ≤ 1048576) (hp : pat.size ≤ 1048576) (hp0 : 0 < pat.size) (hps : p + pat.size ≤ s.size) (hno : ∀ i, i < p → isAt s.data.toList i pat.data.toList = false) (hyes : isAt s.data.toList p pat.data.toList = true) (w : World) :
    Calls Try.prog 11 #[.string s, .string pat] w fun e w' => e = .returned (.int .i64 p) ∧ ∃ q, w' = w.drewN q := by
  have HN : Hid (∀ i, i < p → isAt s.data.toList i pat.data.toList = false) := hno
  have HY : Hid (isAt s.data.toList p pat.data.toList = true) := hyes
  clear hno hyes
  go_enter Try.func11, Try.ntmps11
  go_wp2
  go_loopw [5] (fun x wr => ∃ i : Nat, i ≤ p ∧ x = .int .i64 i ∧ ∃ q, wr = w.drewN q) (fun x _ => p + 1 - (intOf x).toNat)
  case atStart => exact ⟨0, by omega, by go_num, 0, rfl⟩
  case round =>
    obtain ⟨i, hi, rfl, q, rfl⟩ := hrel
    by_cases e : i = p
    · subst e
      go_wp2_with fail
      refine (hasAt_any s pat i hs hp hp0 (by omega) _).mono ?_
      rintro e w1 ⟨rfl, q1, rfl⟩
      rw [HY.out]
      go_wp2
      go_ret
      exact ⟨rfl, _, rfl⟩
    · have hlt : i < p := by omega
      clear e
      go_wp2_with fail
      refine (hasAt_any s pat i hs hp hp0 (by omega) _).mono ?_
      rintro e w1 ⟨rfl, q1, rfl⟩
      rw [HN.out i hlt]
      go_wp2
      go_roundw
      case rel => exact ⟨i + 1, by omega, by go_num, _, rfl⟩
      case measure => simp [intOf]; omega
end Go.Proofs.Qxb6601086a
