/-
  THE PLAIN LAW: the automaton, the scan with a point, the cut at the point. Nothing of the program stands here.
-/
import Derived.Lib.Strings
namespace Go.Proofs.Qxb6605247a

def dig (c : UInt8) : Bool := 48 ≤ c.toNat && c.toNat ≤ 57

/-- The law's automaton from state st on. -/
def run : Nat → List UInt8 → Bool
  | st, [] => st == 2 || st == 4
  | st, c :: r =>
    if st = 0 then (if c.toNat = 45 then run 1 r else if dig c then run 2 r else false)
    else if st = 1 then (if dig c then run 2 r else false)
    else if st = 2 then (if c.toNat = 46 then run 3 r else if dig c then run 2 r else false)
    else (if dig c then run 4 r else false)

/-- isPlain's scan: at place i, the point seen at p (none: negative), rest ahead. -/
def nxt (i : Nat) (p : Int) (rest : List UInt8) : Bool :=
  if p < 0 then (if i = 0 then run 1 rest else run 2 rest)
  else if p = 0 then false
  else if (i : Int) = p + 1 then run 3 rest else run 4 rest

theorem dig_iff (c : UInt8) : dig c = true ↔ 48 ≤ c.toNat ∧ c.toNat ≤ 57 := by simp [dig]

theorem run0 (c : UInt8) (r : List UInt8) : run 0 (c :: r) = if c.toNat = 45 then run 1 r else if dig c then run 2 r else false := rfl
theorem run1 (c : UInt8) (r : List UInt8) : run 1 (c :: r) = if dig c then run 2 r else false := rfl
theorem run2 (c : UInt8) (r : List UInt8) : run 2 (c :: r) = if c.toNat = 46 then run 3 r else if dig c then run 2 r else false := rfl
theorem run3 (c : UInt8) (r : List UInt8) : run 3 (c :: r) = if dig c then run 4 r else false := rfl
theorem run4 (c : UInt8) (r : List UInt8) : run 4 (c :: r) = if dig c then run 4 r else false := rfl

theorem nxt_first {p : Int} (hp : p < 0) (l : List UInt8) : nxt 0 p l = run 1 l := by unfold nxt; rw [if_pos hp, if_pos rfl]
theorem nxt_later {i : Nat} {p : Int} (hp : p < 0) (hi : ¬ i = 0) (l : List UInt8) : nxt i p l = run 2 l := by unfold nxt; rw [if_pos hp, if_neg hi]
theorem nxt_bad (i : Nat) (l : List UInt8) : nxt i 0 l = false := by unfold nxt; rw [if_neg (by omega), if_pos rfl]
theorem nxt_three {i : Nat} {p : Int} (hp : 0 < p) (hi : (i : Int) = p + 1) (l : List UInt8) : nxt i p l = run 3 l := by unfold nxt; rw [if_neg (by omega), if_neg (by omega), if_pos hi]
theorem nxt_four {i : Nat} {p : Int} (hp : 0 < p) (hi : ¬ (i : Int) = p + 1) (l : List UInt8) : nxt i p l = run 4 l := by unfold nxt; rw [if_neg (by omega), if_neg (by omega), if_neg hi]

/-- A digit. -/
theorem nxt_dig (i : Nat) (p : Int) (hp : p < i) (c : UInt8) (r : List UInt8) (h : dig c = true) : nxt i p (c :: r) = nxt (i + 1) p r := by
  have hd := (dig_iff c).1 h
  by_cases h1 : p < 0
  · rw [nxt_later h1 (by omega : ¬ i + 1 = 0)]
    by_cases h2 : i = 0
    · subst h2; rw [nxt_first h1, run1, if_pos h]
    · rw [nxt_later h1 h2, run2, if_neg (by omega), if_pos h]
  · by_cases h2 : p = 0
    · subst h2; rw [nxt_bad, nxt_bad]
    · rw [nxt_four (i := i + 1) (by omega) (by omega)]
      by_cases h3 : (i : Int) = p + 1
      · rw [nxt_three (by omega) h3, run3, if_pos h]
      · rw [nxt_four (by omega) h3, run4, if_pos h]

/-- The first point. -/
theorem nxt_point (i : Nat) (c : UInt8) (r : List UInt8) (p : Int) (hp : p < 0) (h : c.toNat = 46) : nxt i p (c :: r) = nxt (i + 1) i r := by
  have hd : ¬ dig c = true := by simp [dig, h]
  by_cases h2 : i = 0
  · subst h2; rw [nxt_first hp, run1, if_neg hd]; exact (nxt_bad _ _).symm
  · rw [nxt_later hp h2, run2, if_pos h, nxt_three (by omega) (by omega)]

/-- Anything else. -/
theorem nxt_stop (i : Nat) (p : Int) (c : UInt8) (r : List UInt8) (h : dig c = false) (h2 : ¬ (c.toNat = 46 ∧ p < 0)) : nxt i p (c :: r) = false := by
  have hn : ¬ dig c = true := by rw [h]; simp
  by_cases h1 : p < 0
  · by_cases h3 : i = 0
    · subst h3; rw [nxt_first h1, run1, if_neg hn]
    · rw [nxt_later h1 h3, run2, if_neg (by omega), if_neg hn]
  · by_cases h3 : p = 0
    · subst h3; exact nxt_bad _ _
    · by_cases h4 : (i : Int) = p + 1
      · rw [nxt_three (by omega) h4, run3, if_neg hn]
      · rw [nxt_four (by omega) h4, run4, if_neg hn]

/-- The end. -/
theorem nxt_end (n : Nat) (p : Int) (hp : p < n) (h1 : -1 ≤ p) : nxt n p [] = (!(n == 0) && !(p == 0) && !(p == (n : Int) - 1)) := by
  rw [Bool.eq_iff_iff]
  unfold nxt
  simp only [run]
  by_cases h : p < 0
  · rw [if_pos h]
    by_cases h2 : n = 0
    · simp [h2]
    · simp [h2]; omega
  · rw [if_neg h]
    by_cases h2 : p = 0
    · simp [h2]
    · rw [if_neg h2]
      by_cases h3 : (n : Int) = p + 1
      · simp [h3]
      · simp [h3, h2]; omega

/-- The sign dropped. -/
def strip (l : List UInt8) : List UInt8 := Lib.trimPrefix l [45]

theorem strip_nil : strip [] = [] := rfl
theorem strip_yes (c : UInt8) (r : List UInt8) (h : c.toNat = 45) : strip (c :: r) = r := by
  have hc : c = 45 := UInt8.toNat_inj.1 h
  subst hc
  rfl
theorem strip_no (c : UInt8) (r : List UInt8) (h : ¬ c.toNat = 45) : strip (c :: r) = c :: r := by
  have hc : ((45 : UInt8) == c) = false := by rw [beq_eq_false_iff_ne]; rintro rfl; exact h rfl
  simp [strip, Lib.trimPrefix, Lib.hasPrefix, List.isPrefixOf, hc]

/-- THE LAW: the automaton from its start is the automaton behind the sign. -/
theorem run_strip (l : List UInt8) : run 1 (strip l) = run 0 l := by
  cases l with
  | nil => rfl
  | cons c r =>
    by_cases h : c.toNat = 45
    · rw [strip_yes c r h]; simp [run, h]
    · rw [strip_no c r h]; simp [run, h]
end Go.Proofs.Qxb6605247a
