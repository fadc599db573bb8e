/-
  THE WALK OF itoaNonNeg.
-/
import Derived.Test.Qxb6003658aDoorWalkC
namespace Go.Proofs.Qxb6003658aDoor
open Go.RowKit

/-- Of u's digits the last, tl, are written; m is what is left of u. -/
def DigInv (u m : Nat) (tl : List UInt8) : Prop := m ≤ u ∧ ((0 < m ∧ Lib.decDigits u = Lib.decDigits m ++ tl) ∨ (m = 0 ∧ Lib.decDigits u = tl))

theorem DigInv.step {u m : Nat} {tl : List UInt8} (h : DigInv u m tl) (hm : 0 < m) : DigInv u (m / 10) (UInt8.ofNat (48 + m % 10) :: tl) := by
  obtain ⟨hle, h | h⟩ := h
  · refine ⟨by omega, ?_⟩
    by_cases h10 : m < 10
    · right
      have e := h.2
      rw [Lib.decDigits.eq_def m, dif_pos h10] at e
      exact ⟨by omega, by rw [e, Nat.mod_eq_of_lt h10]; rfl⟩
    · left
      have e := h.2
      rw [Lib.decDigits.eq_def m, dif_neg h10] at e
      exact ⟨by omega, by rw [e]; simp⟩
  · omega

theorem DigInv.len {u m : Nat} {tl : List UInt8} (h : DigInv u m tl) (hu : u ≤ 9223372036854775807) : tl.length ≤ 21 := by
  have := Lib.itoa_length_le (u : Int) (by omega) (by omega)
  rw [Lib.itoa_nonneg] at this
  obtain ⟨_, h | h⟩ := h
  · rw [h.2] at this; simp at this; omega
  · rw [← h.2]; exact this

/-- The last cells of the buffer are the digits written. -/
def Tail (cur : Array Value) (t : Nat) (tl : List UInt8) : Prop := ∀ j (h : j < tl.length), cur[t + j]? = some (.int .u8 (tl[j].toNat : Int))

theorem Tail.step {cur : Array Value} {t : Nat} {tl : List UInt8} (h : Tail cur t tl) (c : UInt8) (ht : 1 ≤ t) (htc : t ≤ cur.size) : Tail (cur.setIfInBounds (t - 1) (.int .u8 (c.toNat : Int))) (t - 1) (c :: tl) := by
  intro j hj
  rw [Array.getElem?_setIfInBounds]
  cases j with
  | zero => simp; omega
  | succ j =>
    rw [if_neg (by omega)]
    have := h j (by simpa using hj)
    rw [show t - 1 + (j + 1) = t + j by omega, this]
    simp

theorem digit_byte (m : Nat) : ((UInt8.ofNat (48 + m % 10)).toNat : Int) = 48 + (m : Int) % 10 := by
  simp [UInt8.toNat_ofNat]; omega

theorem conv_tail (w : World) (cur : Array Value) (t : Nat) (tl : List UInt8) (cap : Nat) (h : Tail cur t tl) :
    (convert 37 9 (.slice (some ⟨w.heap.size, t, none⟩) tl.length cap)).run Tryd.prog (w.alloc (.cells cur 46)) = .ok (.string ⟨tl.toArray⟩) (w.alloc (.cells cur 46)) := by
  refine run_convert_bytes_back _ 37 9 5 _ cap tl Tryd.underlying37 Tryd.underlying5 Tryd.underlying9 fun j hj => ?_
  have := h j hj
  have hadd : (⟨w.heap.size, t, none⟩ : Addr).add j = ⟨w.heap.size, t + j, none⟩ := by unfold Addr.add; split <;> simp_all
  rw [hadd]
  show (match (w.alloc (.cells cur 46)).heap[w.heap.size]? with | some (.cells c _ _) => c[t + j]? | _ => none) = _
  rw [fresh_block]
  exact this

theorem alen46 : Tryd.prog.arrayLen 46 = 24 := by kernel_rfl
theorem elem46 : Tryd.prog.elem 46 = 5 := by kernel_rfl
theorem slice_tail (W : World) (b t : Nat) (ht : t < 24) :
    (Instr.sliceAt 46 (.pointer (some ⟨b, 0, none⟩)) (some (.int .i64 (t : Int))) none none).run Tryd.prog W = .ok (.slice (some ⟨b, t, none⟩) (24 - t) (24 - t)) W := by
  have hu : Tryd.prog.underlying 46 = some (.array (Tryd.prog.arrayLen 46) (Tryd.prog.elem 46)) := by rw [alen46, elem46]; exact Tryd.underlying46
  rw [run_sliceAt_array_l W 46 ⟨b, 0, none⟩ hu .i64 t (by omega) (by rw [alen46]; omega), elem46, alen46]
  have hs := Tryd.sizeOf5 W
  have hadd : (⟨b, 0, none⟩ : Addr).add t = ⟨b, t, none⟩ := by unfold Addr.add; split <;> simp_all
  rw [hs]
  simp only [Result.andThen, slicedAt, Int.toNat_natCast, Nat.mul_one]
  rw [if_neg (by omega), hadd]

set_option maxHeartbeats 400000 in
theorem itoa_pos (u : Nat) (h0 : 0 < u) (hu : u ≤ 9223372036854775807) (w : World) :
    Calls Tryd.prog 9 #[.int .i64 u] w fun e w' => e = .returned (.string ⟨(Lib.itoa u).toArray⟩) ∧ Below w.heap.size w w' := by
  have hz : ((u : Int) == 0) = false := by simp; omega
  go_enter Tryd.func9, Tryd.ntmps9
  go_wp2
  go_loopw [0, 4] (fun x i wr => ∃ (m t : Nat) (tl : List UInt8) (cur : Array Value), x = .int .i64 m ∧ i = .int .i64 t ∧ cur.size = 24 ∧ wr = w.alloc (.cells cur 46) ∧ t + tl.length = 24 ∧ DigInv u m tl ∧ Tail cur t tl) (fun x _ _ => (intOf x).toNat)
  case atStart => exact ⟨u, 24, [], _, rfl, rfl, by rfl, rfl, rfl, ⟨by omega, .inl ⟨h0, by simp⟩⟩, fun j hj => by simp at hj⟩
  case round =>
    obtain ⟨m, t, tl, cur, rfl, rfl, hsz, rfl, htl, hinv, htail⟩ := hrel
    have hle := hinv.1
    by_cases hm : 0 < m
    · have hst := hinv.step hm
      have hlen := hst.len hu
      simp only [List.length_cons] at hlen
      have ht : 1 ≤ t ∧ t ≤ 24 := by omega
      have hlt : t - 1 < cur.size := by omega
      have hts := htail.step (UInt8.ofNat (48 + m % 10)) ht.1 (by omega)
      rw [digit_byte] at hts
      have HTL : Hid (t + tl.length = 24) := htl
      have HS : Hid (cur.size = 24) := hsz
      clear htl hsz hinv
      go_wp2
      · go_roundw
        case rel => exact ⟨m / 10, t - 1, UInt8.ofNat (48 + m % 10) :: tl, _, by go_num, by go_num, by simpa using HS.out, rfl, by have := HTL.out; simp; omega, hst, hts⟩
        case measure => simp [intOf]; omega
    · have hdone : Lib.decDigits u = tl := by
        obtain ⟨_, h | h⟩ := hinv
        · omega
        · exact h.2
      have hpos : 1 ≤ tl.length := by rw [← hdone, Lib.decDigits_length]; exact Lib.nDigits_pos u
      have hconv := conv_tail w cur t tl tl.length htail
      have hsl := slice_tail (w.alloc (.cells cur 46)) w.heap.size t (by omega)
      rw [show 24 - t = tl.length by omega] at hsl
      have HD : Hid (Lib.decDigits u = tl) := hdone
      clear htl hsz hdone hinv htail
      go_wp2
      go_ret
      exact ⟨by rw [Lib.itoa_nonneg, HD.out]; rfl, (Below.refl _ _).alloc (Nat.le_refl _) _⟩

theorem itoa_zero (w : World) : Calls Tryd.prog 9 #[.int .i64 0] w fun e w' => e = .returned (.string ⟨(Lib.itoa 0).toArray⟩) ∧ Below w.heap.size w w' := by
  have h : (⟨(Lib.itoa 0).toArray⟩ : ByteArray) = ⟨#[48]⟩ := by
    rw [show (0 : Int) = ((0 : Nat) : Int) from rfl, Lib.itoa_nonneg, Lib.decDigits_one (by omega)]
    rfl
  rw [h]
  clear h
  go_enter Tryd.func9, Tryd.ntmps9
  go_wp2
  go_ret
  exact ⟨rfl, Below.refl _ _⟩

/-- itoaNonNeg: strconv.Itoa's own numeral, for every int from 0 on. -/
theorem itoa_any (x : Int) (h0 : 0 ≤ x) (h1 : x ≤ 9223372036854775807) (w : World) :
    Calls Tryd.prog 9 #[.int .i64 x] w fun e w' => e = .returned (.string ⟨(Lib.itoa x).toArray⟩) ∧ Below w.heap.size w w' := by
  obtain ⟨u, rfl⟩ := Int.eq_ofNat_of_zero_le h0
  rcases Nat.eq_zero_or_pos u with rfl | hu
  · exact itoa_zero w
  · exact itoa_pos u hu (by omega) w
end Go.Proofs.Qxb6003658aDoor
