/-
  THE PLAIN LAW: numerals read back; the fields of a well-formed line. Nothing of the program stands here.
-/
import Derived.Lib.SpaceUEq
import Derived.Lib.Space
import Derived.Lib.AtoiAll
import Derived.Lib.ParseIntB
import Derived.Lib.ItoaLen
namespace Go.Proofs.Qxb6600948aDoor
open Go.Lib

/-! ### Numerals -/

theorem digit_mem (u : Nat) : ∀ b ∈ decDigits u, 48 ≤ b.toNat ∧ b.toNat ≤ 57 := by
  induction u using Nat.strongRecOn with
  | _ u ih =>
    intro b hb
    rw [decDigits.eq_def u] at hb
    by_cases h : u < 10
    · rw [dif_pos h] at hb
      simp only [List.mem_singleton] at hb
      subst hb
      simp [UInt8.toNat_ofNat]; omega
    · rw [dif_neg h] at hb
      rcases List.mem_append.1 hb with hb | hb
      · exact ih (u / 10) (by omega) b hb
      · simp only [List.mem_singleton] at hb
        subst hb
        simp [UInt8.toNat_ofNat]; omega

theorem decDigits_ne (u : Nat) : decDigits u ≠ [] := by
  intro h
  have := congrArg List.length h
  rw [decDigits_length] at this
  have := nDigits_pos u
  simp at *
  omega

theorem parseUintM_append (M : Nat) (l r : List UInt8) : ∀ (acc a : Nat), parseUintM M acc l = .ok a → parseUintM M acc (l ++ r) = parseUintM M a r := by
  induction l with
  | nil => intro acc a h; simp only [parseUintM, NumEnd.ok.injEq] at h; subst h; rfl
  | cons c l ih =>
    intro acc a h
    simp only [parseUintM, List.cons_append] at h ⊢
    split at h
    · rename_i hc
      rw [if_pos hc]
      split at h
      · cases h
      · rename_i h1
        rw [if_neg h1]
        split at h
        · cases h
        · rename_i h2
          rw [if_neg h2]
          exact ih _ _ h
    · cases h

theorem parseUintM_dec (M : Nat) (hM : M ≤ 18446744073709551615) (u : Nat) (hu : u ≤ M) : parseUintM M 0 (decDigits u) = .ok u := by
  induction u using Nat.strongRecOn with
  | _ u ih =>
    rw [decDigits.eq_def u]
    by_cases h : u < 10
    · rw [dif_pos h]
      have e : (UInt8.ofNat (48 + u)).toNat = 48 + u := by simp [UInt8.toNat_ofNat]; omega
      simp only [parseUintM, e]
      rw [if_pos (by omega), if_neg (by omega), if_neg (by omega)]
      congr 1
      omega
    · rw [dif_neg h, parseUintM_append M _ _ 0 (u / 10) (ih (u / 10) (by omega) (by omega))]
      have e : (UInt8.ofNat (48 + u % 10)).toNat = 48 + u % 10 := by simp [UInt8.toNat_ofNat]; omega
      simp only [parseUintM, e]
      rw [if_pos (by omega), if_neg (by omega), if_neg (by omega)]
      congr 1
      omega

theorem parseUint_dec (u : Nat) (hu : u < 18446744073709551616) : parseUintB 64 (decDigits u) = .ok u := by
  unfold parseUintB
  rw [if_neg (decDigits_ne u)]
  exact parseUintM_dec _ (by omega) u (by omega)

theorem parse10_eq (l : List UInt8) : ∀ acc, parseUint10 acc l = parseUintM 18446744073709551615 acc l := by
  induction l with
  | nil => intro acc; rfl
  | cons c l ih =>
    intro acc
    simp only [parseUint10, parseUintM, ih]
    by_cases h : 18446744073709551616 ≤ acc * 10 + (c.toNat - 48)
    · rw [if_pos h, if_pos (show 18446744073709551615 < acc * 10 + (c.toNat - 48) by omega)]
    · rw [if_neg h, if_neg (show ¬ 18446744073709551615 < acc * 10 + (c.toNat - 48) by omega)]

theorem parseMag_dec (u : Nat) (hu : u < 18446744073709551616) : parseMag (decDigits u) = .ok u := by
  unfold parseMag
  rw [if_neg (decDigits_ne u), parse10_eq]
  exact parseUintM_dec _ (by omega) u (by omega)

theorem atoi_itoa (x : Int) (h0 : -9223372036854775808 ≤ x) (h1 : x ≤ 9223372036854775807) : atoiAll (itoa x) = .ok x := by
  by_cases hx : x < 0
  · obtain ⟨u, rfl⟩ : ∃ u : Nat, x = -(u : Int) := ⟨x.natAbs, by omega⟩
    rw [itoa_neg u (by omega)]
    have e : (45 : UInt8).toNat = 45 := rfl
    simp only [atoiAll, e]
    rw [if_pos (Or.inr trivial), parseMag_dec u (by omega)]
    simp only [not_true_eq_false, false_and, if_false, true_and, if_true]
    rw [if_neg (by omega)]
  · obtain ⟨u, rfl⟩ : ∃ u : Nat, x = (u : Int) := ⟨x.toNat, by omega⟩
    rw [itoa_nonneg]
    have hm := parseMag_dec u (by omega)
    cases hd : decDigits u with
    | nil => exact absurd hd (decDigits_ne u)
    | cons c r =>
      have hc := digit_mem u c (by rw [hd]; exact List.mem_cons_self)
      rw [hd] at hm
      simp only [atoiAll]
      rw [if_neg (by omega), hm]
      simp only
      rw [if_neg (by omega), if_neg (by omega), if_neg (by omega)]

/-! ### Fields -/

/-- A byte that is no ASCII space, followed by nothing or by an ASCII byte, begins no space. -/
theorem headSpace_solid (b : UInt8) (r : List UInt8) (h : isSp b = false) (h2 : ∀ c, r.head? = some c → c.toNat < 128) : headSpace (b :: r) = 0 := by
  simp only [isSp, Bool.or_eq_false_iff] at h
  obtain ⟨⟨⟨⟨⟨n9, n10⟩, n11⟩, n12⟩, n13⟩, n32⟩ := h
  have sy : ∀ k : UInt8, (b == k) = false → (k == b) = false := fun k hk => by rw [beq_eq_false_iff_ne] at hk ⊢; exact Ne.symm hk
  have m9 := sy _ n9
  have m10 := sy _ n10
  have m11 := sy _ n11
  have m12 := sy _ n12
  have m13 := sy _ n13
  have m32 := sy _ n32
  unfold headSpace
  have hn : spaceSeqs.find? (·.isPrefixOf (b :: r)) = none := by
    rw [List.find?_eq_none]
    intro q hq
    rw [Bool.not_eq_true]
    cases r with
    | nil =>
      simp only [spaceSeqs, List.mem_cons, List.not_mem_nil, or_false] at hq
      rcases hq with rfl | rfl | rfl | rfl | rfl | rfl | rfl | rfl | rfl | rfl | rfl | rfl | rfl | rfl | rfl | rfl | rfl | rfl | rfl | rfl | rfl | rfl | rfl | rfl | rfl <;> simp only [List.isPrefixOf, m9, m10, m11, m12, m13, m32, Bool.false_and, Bool.and_false]
    | cons c r =>
      have hc : c.toNat < 128 := h2 c rfl
      have hne : ∀ k : UInt8, 128 ≤ k.toNat → (k == c) = false := fun k hk => by rw [beq_eq_false_iff_ne]; intro e; subst e; omega
      have g1 := hne 0x85 (by decide)
      have g2 := hne 0xA0 (by decide)
      have g3 := hne 0x9A (by decide)
      have g4 := hne 0x80 (by decide)
      have g5 := hne 0x81 (by decide)
      simp only [spaceSeqs, List.mem_cons, List.not_mem_nil, or_false] at hq
      rcases hq with rfl | rfl | rfl | rfl | rfl | rfl | rfl | rfl | rfl | rfl | rfl | rfl | rfl | rfl | rfl | rfl | rfl | rfl | rfl | rfl | rfl | rfl | rfl | rfl | rfl <;> simp only [List.isPrefixOf, m9, m10, m11, m12, m13, m32, g1, g2, g3, g4, g5, Bool.false_and, Bool.and_false]
  rw [hn]
  rfl

/-- An ASCII space at the head takes one byte. -/
theorem headSpace_sp (c : UInt8) (r : List UInt8) (h : isSp c = true) : headSpace (c :: r) = 1 := by
  simp only [isSp, Bool.or_eq_true, beq_iff_eq] at h
  rcases h with ((((rfl | rfl) | rfl) | rfl) | rfl) | rfl <;> rfl

theorem isSp_ascii (c : UInt8) (h : isSp c = true) : c.toNat < 128 := by
  simp only [isSp, Bool.or_eq_true, beq_iff_eq] at h
  rcases h with ((((rfl | rfl) | rfl) | rfl) | rfl) | rfl <;> decide

/-- A token: not empty; no ASCII space in it; ASCII behind its first byte. -/
def Tok (t : List UInt8) : Prop := t ≠ [] ∧ (∀ b ∈ t, isSp b = false) ∧ ∀ b ∈ t.tail, b.toNat < 128

/-- What may follow the last token: nothing, or an ASCII space and whatever. -/
def Ends (r : List UInt8) : Prop := r = [] ∨ ∃ c q, r = c :: q ∧ isSp c = true

theorem Ends.head {r : List UInt8} (h : Ends r) : ∀ c, r.head? = some c → c.toNat < 128 := by
  intro c hc
  rcases h with rfl | ⟨c', q, rfl, hs⟩
  · simp at hc
  · simp at hc; subst hc; exact isSp_ascii c' hs

theorem tok_solid {t r : List UInt8} (ht : Tok t) (hr : Ends r) : ∀ j, j < t.length → headSpace ((t ++ r).drop j) = 0 := by
  intro j hj
  rw [List.drop_append_of_le_length (by omega), List.drop_eq_getElem_cons hj, List.cons_append]
  refine headSpace_solid _ _ (ht.2.1 _ (List.getElem_mem hj)) fun c hc => ?_
  by_cases h1 : j + 1 < t.length
  · rw [List.drop_eq_getElem_cons h1] at hc
    simp only [List.cons_append, List.head?_cons, Option.some.injEq] at hc
    subst hc
    refine ht.2.2 _ ?_
    have : t.tail[j]? = some t[j + 1] := by rw [List.getElem?_tail, List.getElem?_eq_getElem h1]
    exact List.mem_of_getElem? this
  · rw [List.drop_eq_nil_of_le (by omega), List.nil_append] at hc
    exact hr.head c hc

/-- One token off the front. -/
theorem fields_tok (t q : List UInt8) (c : UInt8) (ht : Tok t) (hc : isSp c = true) : fieldsU (t ++ c :: q) = t :: fieldsU q := by
  have hs := tok_solid ht (.inr ⟨c, q, rfl, hc⟩)
  unfold fieldsU
  rw [show (t ++ c :: q).length + 1 = (q.length + 1 + 1) + t.length by simp; omega, u_skip t.length _ [] _ (by simp) hs]
  simp only [List.nil_append, List.take_left', List.drop_left', fieldsGoU]
  rw [headSpace_sp c q hc, if_neg (by omega), if_neg ht.1]
  rfl

theorem fields_last (t : List UInt8) (ht : Tok t) : fieldsU t = [t] := by
  have hs := tok_solid ht (.inl rfl : Ends [])
  simp only [List.append_nil] at hs
  unfold fieldsU
  rw [show t.length + 1 = 1 + t.length by omega, u_skip t.length _ [] _ (Nat.le_refl _) hs]
  simp only [List.nil_append, List.take_length, List.drop_length]
  rw [fieldsGoU_nil, if_neg ht.1]

theorem fields_space (c : UInt8) (q : List UInt8) (hc : isSp c = true) : fieldsU (c :: q) = fieldsU q := by
  unfold fieldsU
  simp only [List.length_cons, fieldsGoU]
  rw [headSpace_sp c q hc, if_neg (by omega)]
  rfl

/-- Tokens with a blank between them, then what may follow. -/
theorem fields_all (rest : List UInt8) (hr : Ends rest) : ∀ (ts : List (List UInt8)) (t0 : List UInt8), Tok t0 → (∀ t ∈ ts, Tok t) → ∃ R, fieldsU (t0 ++ (ts.map (32 :: ·)).flatten ++ rest) = t0 :: ts ++ R
  | [], t0, h0, _ => by
    simp only [List.map_nil, List.flatten_nil, List.append_nil]
    rcases hr with rfl | ⟨c, q, rfl, hs⟩
    · exact ⟨[], by rw [List.append_nil, fields_last t0 h0, List.append_nil]⟩
    · exact ⟨fieldsU q, by rw [fields_tok t0 q c h0 hs]; rfl⟩
  | t :: ts, t0, h0, hts => by
    obtain ⟨R, hR⟩ := fields_all rest hr ts t (hts t List.mem_cons_self) (fun x hx => hts x (List.mem_cons_of_mem _ hx))
    refine ⟨R, ?_⟩
    simp only [List.map_cons, List.flatten_cons, List.cons_append, List.append_assoc]
    rw [fields_tok t0 _ 32 h0 rfl]
    simp only [List.append_assoc] at hR
    rw [hR]
    simp

/-! ### The line -/

theorem tok_dec (u : Nat) : Tok (decDigits u) := by
  have h := digit_mem u
  refine ⟨decDigits_ne u, fun b hb => ?_, fun b hb => ?_⟩
  · have := h b hb
    simp only [isSp, Bool.or_eq_false_iff, beq_eq_false_iff_ne, ne_eq]
    refine ⟨⟨⟨⟨⟨?_, ?_⟩, ?_⟩, ?_⟩, ?_⟩, ?_⟩ <;> (intro e; subst e; revert this; decide)
  · have := h b (List.mem_of_mem_tail hb); omega

theorem tok_itoa (x : Int) : Tok (itoa x) := by
  by_cases hx : x < 0
  · obtain ⟨u, rfl⟩ : ∃ u : Nat, x = -(u : Int) := ⟨x.natAbs, by omega⟩
    rw [itoa_neg u (by omega)]
    have h := tok_dec u
    refine ⟨by simp, fun b hb => ?_, fun b hb => ?_⟩
    · rcases List.mem_cons.1 hb with rfl | hb
      · decide
      · exact h.2.1 b hb
    · have := digit_mem u b hb; omega
  · obtain ⟨u, rfl⟩ : ∃ u : Nat, x = (u : Int) := ⟨x.toNat, by omega⟩
    rw [itoa_nonneg]
    exact tok_dec u

theorem tok_state (s : UInt8) (h : isSp s = false) : Tok [s] := ⟨by simp, fun b hb => by simp at hb; subst hb; exact h, fun b hb => by simp at hb⟩

/-- The fields 6 .. 21, each behind a blank: the first k of them. -/
def mids (k : Nat) : List UInt8 := ((List.range k).map fun (j : Nat) => 32 :: itoa (6 + (j : Int))).flatten

theorem mids_succ (k : Nat) : mids (k + 1) = mids k ++ [32] ++ itoa (6 + (k : Int)) := by
  simp [mids, List.range_succ]

/-- What follows the closing bracket. -/
def tailT (state : UInt8) (ppid pgid : Int) (start : Nat) (rest : List UInt8) : List UInt8 :=
  [32, state, 32] ++ itoa ppid ++ [32] ++ itoa pgid ++ mids 16 ++ [32] ++ decDigits start ++ rest

def toks (ppid pgid : Int) (start : Nat) : List (List UInt8) :=
  [itoa ppid, itoa pgid] ++ (List.range 16).map (fun j => itoa (6 + ((j : Nat) : Int))) ++ [decDigits start]

theorem tail_eq (state : UInt8) (ppid pgid : Int) (start : Nat) (rest : List UInt8) :
    tailT state ppid pgid start rest = 32 :: ([state] ++ ((toks ppid pgid start).map (32 :: ·)).flatten ++ rest) := by
  simp [tailT, toks, mids, Function.comp_def]

/-- THE LAW: the line's fields. -/
theorem fields_tail (state : UInt8) (hs : isSp state = false) (ppid pgid : Int) (start : Nat) (rest : List UInt8) (hr : Ends rest) :
    ∃ R, fieldsD (tailT state ppid pgid start rest) = [state] :: toks ppid pgid start ++ R := by
  rw [← fieldsU_eq, tail_eq, fields_space 32 _ rfl]
  refine fields_all rest hr _ _ (tok_state state hs) fun t ht => ?_
  simp only [toks, List.cons_append, List.nil_append, List.mem_cons, List.mem_append, List.mem_map, List.not_mem_nil, or_false] at ht
  rcases ht with rfl | rfl | ⟨j, _, rfl⟩ | rfl
  · exact tok_itoa _
  · exact tok_itoa _
  · exact tok_itoa _
  · exact tok_dec _

theorem toks_length (ppid pgid : Int) (start : Nat) : (toks ppid pgid start).length = 19 := by simp [toks]

/-- No closing bracket in the tail. -/
theorem no_close (state : UInt8) (h41 : state ≠ 41) (ppid pgid : Int) (start : Nat) (rest : List UInt8) (hr : ∀ b ∈ rest, b ≠ 41) : ∀ b ∈ tailT state ppid pgid start rest, b ≠ 41 := by
  have hd : ∀ u, ∀ b ∈ decDigits u, b ≠ 41 := fun u b hb e => by
    have := digit_mem u b hb
    rw [e] at this
    revert this
    decide
  have hi : ∀ x, ∀ b ∈ itoa x, b ≠ 41 := fun x b hb => by
    unfold itoa at hb
    split at hb
    · rcases List.mem_cons.1 hb with rfl | hb
      · decide
      · exact hd _ b hb
    · exact hd _ b hb
  have hm : ∀ b ∈ mids 16, b ≠ 41 := fun b hb => by
    simp only [mids, List.mem_flatten, List.mem_map] at hb
    obtain ⟨l, ⟨j, _, rfl⟩, hb⟩ := hb
    rcases List.mem_cons.1 hb with rfl | hb
    · decide
    · exact hi _ b hb
  have h32 : (32 : UInt8) ≠ 41 := by decide
  intro b hb
  unfold tailT at hb
  rcases List.mem_append.1 hb with hb | hb
  · rcases List.mem_append.1 hb with hb | hb
    · rcases List.mem_append.1 hb with hb | hb
      · rcases List.mem_append.1 hb with hb | hb
        · rcases List.mem_append.1 hb with hb | hb
          · rcases List.mem_append.1 hb with hb | hb
            · rcases List.mem_append.1 hb with hb | hb
              · simp only [List.mem_cons, List.not_mem_nil, or_false] at hb
                rcases hb with rfl | rfl | rfl
                · exact h32
                · exact h41
                · exact h32
              · exact hi _ b hb
            · simp only [List.mem_singleton] at hb
              subst hb
              exact h32
          · exact hi _ b hb
        · exact hm b hb
      · simp only [List.mem_singleton] at hb
        subst hb
        exact h32
    · exact hd _ b hb
  · exact hr b hb
end Go.Proofs.Qxb6600948aDoor
