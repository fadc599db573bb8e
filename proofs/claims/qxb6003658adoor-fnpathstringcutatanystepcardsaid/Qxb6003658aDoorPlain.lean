/-
  THE PLAIN LAW: what a Path's text is, and where it can be cut. Nothing of the program stands here.
-/
import Derived.Lib.ItoaLen
namespace Go.Proofs.Qxb6003658aDoor

/-- One step written out behind i others. -/
def stepT (i : Nat) (s : ByteArray) (x : Int) : List UInt8 :=
  if 0 ≤ x then [91] ++ Lib.itoa x ++ [93] else (if 0 < i then [46] else []) ++ s.data.toList

/-- The first k steps written out. -/
def pathT (ns : Nat → ByteArray) (is : Nat → Int) : Nat → List UInt8
  | 0 => []
  | k + 1 => pathT ns is k ++ stepT k (ns k) (is k)

/-- The names' lengths, added up. -/
def tot (ns : Nat → ByteArray) : Nat → Nat
  | 0 => 0
  | k + 1 => tot ns k + (ns k).size

def I64 (is : Nat → Int) (n : Nat) : Prop := ∀ j, j < n → -9223372036854775808 ≤ is j ∧ is j ≤ 9223372036854775807

theorem stepT_len (i : Nat) (s : ByteArray) (x : Int) (h : -9223372036854775808 ≤ x ∧ x ≤ 9223372036854775807) : (stepT i s x).length ≤ s.size + 23 := by
  unfold stepT
  have := Lib.itoa_length_le x h.1 h.2
  have e : s.data.toList.length = s.size := rfl
  split
  · simp; omega
  · split <;> simp [e] <;> omega

theorem pathT_len (ns : Nat → ByteArray) (is : Nat → Int) (k : Nat) (h : I64 is k) : (pathT ns is k).length ≤ tot ns k + 23 * k := by
  induction k with
  | zero => simp [pathT, tot]
  | succ k ih =>
    have := ih (fun j hj => h j (by omega))
    have := stepT_len k (ns k) (is k) (h k (by omega))
    simp only [pathT, tot, List.length_append]
    omega

theorem tot_mono (ns : Nat → ByteArray) (k m : Nat) : tot ns k ≤ tot ns (k + m) := by
  induction m with
  | zero => simp
  | succ m ih => have : tot ns (k + (m + 1)) = tot ns (k + m) + (ns (k + m)).size := rfl; omega

theorem tot_le (ns : Nat → ByteArray) {k n : Nat} (h : k ≤ n) : tot ns k ≤ tot ns n := by
  have := tot_mono ns k (n - k)
  rwa [Nat.add_sub_cancel' h] at this

theorem tot_shift (ns : Nat → ByteArray) (k m : Nat) : tot ns (k + m) = tot ns k + tot (fun j => ns (k + j)) m := by
  induction m with
  | zero => simp [tot]
  | succ m ih =>
    have e : tot ns (k + (m + 1)) = tot ns (k + m) + (ns (k + m)).size := rfl
    rw [e, ih]
    simp only [tot]
    omega

theorem stepT_pos (i j : Nat) (hi : 0 < i) (hj : 0 < j) (s : ByteArray) (x : Int) : stepT i s x = stepT j s x := by
  unfold stepT
  rw [if_pos hi, if_pos hj]

/-- THE LAW: cut at whatever step. -/
theorem pathT_cut (ns : Nat → ByteArray) (is : Nat → Int) (k m : Nat) :
    pathT ns is (k + m) = pathT ns is k ++ (if 0 < k ∧ 0 < m ∧ is k < 0 then [46] else []) ++ pathT (fun j => ns (k + j)) (fun j => is (k + j)) m := by
  induction m with
  | zero => simp [pathT]
  | succ m ih =>
    have e : pathT ns is (k + (m + 1)) = pathT ns is (k + m) ++ stepT (k + m) (ns (k + m)) (is (k + m)) := rfl
    rw [e]
    simp only [pathT]
    rcases Nat.eq_zero_or_pos m with rfl | hm
    · simp only [pathT, Nat.add_zero, List.nil_append, List.append_assoc]
      congr 1
      unfold stepT
      by_cases h0 : 0 ≤ is k
      · rw [if_pos h0, if_pos h0, if_neg (by omega)]; simp
      · rw [if_neg h0, if_neg h0]
        by_cases hk : 0 < k
        · rw [if_pos hk, if_pos (by omega), if_neg (by omega)]; simp
        · rw [if_neg hk, if_neg (by omega), if_neg (by omega)]; simp
    · rw [ih, stepT_pos (k + m) m (by omega) hm]
      by_cases hc : 0 < k ∧ is k < 0
      · rw [if_pos (by omega), if_pos (by omega)]; simp [List.append_assoc]
      · rw [if_neg (by omega), if_neg (by omega)]; simp [List.append_assoc]

/-- A single step. -/
theorem pathT_one (ns : Nat → ByteArray) (is : Nat → Int) : pathT ns is 1 = if 0 ≤ is 0 then [91] ++ Lib.itoa (is 0) ++ [93] else (ns 0).data.toList := by
  simp [pathT, stepT]

end Go.Proofs.Qxb6003658aDoor
